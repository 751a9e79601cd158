/- A part of the proof of FnLog: laws and walks, with their conditions written at each. -/
import Derived.Test.YtmagnkjodjmojaaGreatQ16
import Derived.Test.YtmagnkjodjmojaaGreatQ17
import Derived.Test.YtmagnkjodjmojaaGreatQ18
import Derived.Test.YtmagnkjodjmojaaGreatQ19
import Derived.Test.YtmagnkjodjmojaaGreatQ20
import Derived.Test.YtmagnkjodjmojaaGreatQ23
set_option maxRecDepth 20000
set_option maxHeartbeats 4000000
set_option linter.all false
namespace Go.Proofs.YtmagnkjodjmojaaGreat
open Go.RowKit
def LgL.limA (g:LgL) (c:LCall) (A:LAns):LAns:=
 if c.kind=8∨c.kind=9 then {A with es:=A.es.take (lim A.es c.c)}
 else if c.kind=15 then {A with es:=A.es.take (lim A.es (g.size - min g.size g.usg))}
 else if c.kind=34∧c.st.kind=5 then {A with es:=A.es.take (lim A.es c.st.c)} else A
theorem LgL.Ju {g:LgL} {c:LCall} {A:LAns} (h8:c.kind≠8) (h9:c.kind≠9) (h15:c.kind≠15) (h34:c.kind≠34):g.limA c A=A:=by
 unfold LgL.limA;rw [if_neg (by omega),if_neg h15,if_neg (by omega)]
theorem lim_all {es:List Ent} (h:AllOk es) (hl:es.length≤40000):es.take (lim es 18446744073709551615)=es:=by
 rcases Nat.eq_zero_or_pos es.length with h0|h0
 ·obtain rfl:=List.eq_nil_of_length_eq_zero h0;rfl
 ·have:=lim_prop h 18446744073709551615 h0
  obtain ⟨h1,h2,h3⟩:=this;have hle:=lim_le es 18446744073709551615;rcases Nat.lt_or_ge (lim es 18446744073709551615) es.length with hlt|hge
  ·exfalso;have h4:=(sumS_bd h (lim es 18446744073709551615+1) hlt).2;omega
  ·exact List.take_of_length_le hge
theorem TlL.append_keep {u u':TlL} {l:List Ent} (h:u.append l=some u'):u'.has=u.has∧u'.snap=u.snap:=by
 unfold TlL.append at h;split at h
 ·cases h
 split at h
 ·cases h
 split at h
 ·cases h;exact ⟨rfl,rfl⟩
 ·cases h;exact ⟨rfl,rfl⟩
section
variable {N:Nat} {w w':World} {J:LId} {g g':LgL} {v:Jc} {c:LCall} {A:LAns} {rb:Nat}
theorem lgMaybe (hc:c.Ok) (ho:g.Ok) (ho':g'.Ok) (hd:g.maybe c=some (A,g')):∃X Y,rowB c.es=true∧A= {LAns.none with n:=X,flag:=Y}∧∀(W:World) (t:SlV),Jf N W J g→PArr N W 0 t c.es→(∀b o b' o',J.I.es.A=some ⟨b,o,none⟩→t.A=some ⟨b',o',none⟩→b≠b')→
   Calls Tryz.prog 142 #[.pointer (some ⟨J.l,0,none⟩),.agg #[.int .u64 c.a,.int .u64 c.pT,.int .u64 c.pI,.slice t.A t.n t.c],.int .u64 c.b] W fun e w'=>e=.returned (.tuple #[.int .u64 X,.bool Y])∧LgR N W J g' w':=by
 unfold LgL.maybe at hd;split at hd
 ·cases hd
 rename_i hx
 have hrow:rowB c.es=true:=by rcases hb:rowB c.es with _|_;exact absurd (.inl hb) hx;rfl
 have hval:LgL.validB c.a c.pT c.pI c.es=true:=by rcases hb:LgL.validB c.a c.pT c.pI c.es with _|_;exact absurd (.inr (.inl hb)) hx;rfl
 have hpI:c.pI<4611686018427387904:=by unfold farI at hx;omega
 have hok:=hc.es.ok hrow;have hok':AllOk' c.es:=fun j hj=>⟨(hok j hj).i0,(hok j hj).i1⟩;split at hd
 ·rename_i hm
  cases hd;exact ⟨0,false,hrow,rfl,fun W t h hp _=>(lgMaybe_no h ho hc.pi0 hpI hm).mono fun _ _ ⟨h1,h2,h3⟩=>⟨h1,LgR.ms h h2 h3⟩⟩
 rename_i hm
 have hm:g.matches c.pT c.pI=true:=by simpa using hm
 split at hd
 ·rename_i hcf
  split at hd
  ·cases hd
  rename_i hcm
  rcases g.conflict_at c.es with h0|⟨j,hj,hcj⟩
  ·omega
  unfold LgL.validB at hval;rw [decide_eq_true_eq] at hval;have hij:=(hval.1 j hj).1;rw [hij] at hcj;rw [show (g.conflict c.es - c.pI - 1).toNat=j by omega] at hd;rcases ha:g.append (c.es.drop j) with _|g1
  ·rw [ha] at hd;cases hd
  rw [ha] at hd;simp only [Option.bind_some] at hd;rcases hb:g1.commit? (min c.b (c.pI+c.es.length)) with _|g2
  ·rw [hb] at hd;cases hd
  rw [hb] at hd;cases hd;obtain ⟨u',hu',rfl,_⟩:=LgL.append_some ha (by simp;omega);have hk:=TlL.append_keep hu';have e:g'=({g with u:=u'}:LgL).commit (min c.b (c.pI+c.es.length)):=by
   unfold LgL.commit? at hb;split at hb
   ·cases hb
   ·cases hb;rfl
  have ho1:({g with u:=u'}:LgL).Ok:=LgL.Ok.ofCommit ho (e ▸ho') rfl rfl rfl rfl hk.1 hk.2;have hl:=(LgL.commit_ok? ho1 hb).2;subst e;exact ⟨_,true,hrow,rfl,fun W t h hp hsep=>(lgMaybe_app h ho hp hok' (by have:=hc.len;omega) hc.pi0 hpI hm hj hcj (by omega) ha ho1 hl hsep).mono fun _ _ ⟨h1,h2,h3⟩=>⟨h1,h2,h3⟩⟩
 ·rename_i hcf
  have h0:g.conflict c.es=0:=by
   rcases g.conflict_at c.es with h0|⟨j,hj,hcj⟩
   ·exact h0
   ·have:=(hok j hj).i0;omega
  rcases hb:g.commit? (min c.b (c.pI+c.es.length)) with _|g2
  ·rw [hb] at hd;cases hd
  rw [hb] at hd;cases hd;obtain ⟨rfl,hl⟩:=LgL.commit_ok? ho hb;exact ⟨_,true,hrow,rfl,fun W t h hp _=>(lgMaybe_all h ho hp hok' (by have:=hc.len;omega) hc.pi0 hpI hm h0 hl).mono fun _ _ ⟨h1,h2,h3⟩=>⟨h1,⟨J,rfl,h2⟩,h3⟩⟩
theorem LgL.Ok.term_above (ho:g.Ok) {i:Int} (h:g.last<i):(g.term i).2≠0:=by
 have hlo:=ho.last_lt;have hn:g.u.term i=none:=by
  refine TlL.term_none ?_ ?_
  ·rintro ⟨h1,h2⟩;unfold LgL.last at h;unfold TlL.end_ at*;split at h
   ·omega
   ·omega
  ·rintro ⟨h1,h2,h3⟩;unfold LgL.last at h;have:=ho.u.t1;have:=ho.u.t2;have:=ho.u.hs h1;unfold TlL.end_ at*;split at h
   ·omega
   ·omega
 unfold LgL.term;rw [hn];simp only;split
 ·decide
 ·decide
theorem lgAny (h:Jf N w J g) (ho:g.Ok) (ho':g'.Ok) (hr:Blk w rb 94 #[.pointer (some ⟨J.I.ms,0,none⟩),.pointer (some ⟨J.l,0,none⟩)]) (hv:v.Rd N w c) (hc:c.Ok) (hd:LDo g c=some (A,g')):
  Calls Tryz.prog 43 #[.pointer (some ⟨rb,0,none⟩),.agg v.cells] w fun e w'=>∃V:Ja,e=.returned (.agg V.cells)∧V.Rd N w' (g.limA c A)∧LgR N w J g' w':=by
 have hkk:=hv.kind;unfold LDo at hd;by_cases hfar:farI≤c.a∨farI≤c.b∨farI≤c.atI
 ·rw [if_pos hfar] at hd;cases hd
 rw [if_neg hfar] at hd;unfold farI at hfar;have fa:c.a<4611686018427387904:=by omega
 have fb:c.b<4611686018427387904:=by omega
 have fi:c.atI<4611686018427387904:=by omega
 clear hfar;by_cases hk:c.kind=1
 ·rw [if_pos hk] at hd;rcases ha:g.append c.es with _|g1
  ·rw [ha] at hd;cases hd
  ·rw [ha] at hd;cases hd;rw [LgL.Ju (by omega) (by omega) (by omega) (by omega)];exact lg_1 h ho hr hv hc (hkk.trans hk) ha ho'
 rw [if_neg hk] at hd;clear hk;by_cases hk:c.kind=2
 ·rw [if_pos hk] at hd;obtain ⟨X,Y,hrow,rfl,hM⟩:=lgMaybe (N:=N) (J:=J) hc ho ho' hd;rw [LgL.Ju (by omega) (by omega) (by omega) (by omega)];exact lg_2 h ho hr hv hc (hkk.trans hk) hrow hM
 rw [if_neg hk] at hd;clear hk;by_cases hk:c.kind=13
 ·rw [if_pos hk] at hd;rcases ha:g.commit? c.a with _|g1
  ·rw [ha] at hd;cases hd
  ·rw [ha] at hd;cases hd;obtain ⟨rfl,hl⟩:=LgL.commit_ok? ho ha;rw [LgL.Ju (by omega) (by omega) (by omega) (by omega)];exact lg_13 h ho hr hv hc (hkk.trans hk) hl
 rw [if_neg hk] at hd;clear hk;by_cases hk:c.kind=14
 ·rw [if_pos hk] at hd;have h14:=lg_14 h ho hr hv hc (hkk.trans hk) fi;unfold LgL.maybeCommit at h14;rw [LgL.Ju (by omega) (by omega) (by omega) (by omega)];split at hd
  ·rename_i hm
   cases hd;rw [hm,if_pos rfl] at h14;exact h14
  ·rename_i hm
   cases hd;rw [Bool.not_eq_true] at hm;rw [hm,if_neg (by decide)] at h14;exact h14
 rw [if_neg hk] at hd;clear hk;by_cases hk:c.kind=18
 ·rw [if_pos hk] at hd;split at hd
  ·cases hd
  ·rename_i h1
   unfold farI at h1;cases hd;rw [LgL.Ju (by omega) (by omega) (by omega) (by omega)];exact lg_18 h ho hr hv hc (hkk.trans hk) (by omega) fb (by omega)
 rw [if_neg hk] at hd;clear hk;by_cases hk:c.kind=19
 ·rw [if_pos hk] at hd;split at hd
  ·cases hd
  ·rename_i h1
   cases hd;rw [LgL.Ju (by omega) (by omega) (by omega) (by omega)];exact lg_19 h ho hr hv hc (hkk.trans hk) (by omega) (by omega) fb
 rw [if_neg hk] at hd;clear hk;by_cases hk:c.kind=23
 ·rw [if_pos hk] at hd;cases hd;rw [LgL.Ju (by omega) (by omega) (by omega) (by omega)];exact lg_23 h ho hr hv hc (hkk.trans hk)
 rw [if_neg hk] at hd;clear hk;by_cases hk:c.kind=24
 ·rw [if_pos hk] at hd;cases hd;rw [LgL.Ju (by omega) (by omega) (by omega) (by omega)];exact lg_24 h ho hr hv hc (hkk.trans hk) fi
 rw [if_neg hk] at hd;clear hk;by_cases hk:c.kind=25
 ·rw [if_pos hk] at hd;cases hd;rw [LgL.Ju (by omega) (by omega) (by omega) (by omega)];exact lg_25 h ho hr hv hc (hkk.trans hk)
 rw [if_neg hk] at hd;clear hk;by_cases hk:c.kind=26
 ·rw [if_pos hk] at hd;split at hd
  ·cases hd
  ·rename_i h1
   unfold farI at h1;cases hd;rw [LgL.Ju (by omega) (by omega) (by omega) (by omega)];exact lg_26 h ho hr hv hc (hkk.trans hk) (by omega)
 rw [if_neg hk] at hd;clear hk;by_cases hk:c.kind=34
 ·rw [if_pos hk] at hd;rcases hs:SDo g.s c.st with _|⟨A1,s1⟩
  ·rw [hs] at hd;cases hd
  ·rw [hs] at hd;cases hd;have h34:=lg_34 h ho hr hv hc (hkk.trans hk) hs;unfold LgL.limA;unfold SAns.lim at h34;rw [if_neg (by omega),if_neg (by omega)];by_cases h5:c.st.kind=5
   ·rw [if_pos ⟨hk,h5⟩];rw [if_pos h5] at h34;exact h34
   ·rw [if_neg (by omega)];rw [if_neg h5] at h34;exact h34
 rw [if_neg hk] at hd;clear hk;unfold LgL.ask at hd;by_cases hk:c.kind=3
 ·rw [if_pos hk] at hd;split at hd
  ·rename_i hrow
   cases hd;rw [LgL.Ju (by omega) (by omega) (by omega) (by omega)];exact lg_3 h ho hr hv hc (hkk.trans hk) hrow
  ·cases hd
 rw [if_neg hk] at hd;clear hk;by_cases hk:c.kind=4
 ·rw [if_pos hk] at hd;cases hd;rw [LgL.Ju (by omega) (by omega) (by omega) (by omega)];have h4:=lg_4 h ho hr hv hc (hkk.trans hk) fa;split
  ·rename_i hlt
   have hl:=ho.last_lt;obtain ⟨k,hk⟩:∃k,c.a.toNat=k+1:=⟨c.a.toNat - 1,by omega⟩;have hk2:((k+1:Nat):Int)=c.a:=by omega
   rw [hk] at h4;have hb:g.byTerm c.b (k+1)=(c.a,0):=by
    show (if (g.term ((k+1:Nat):Int)).2≠0 then _ else _)=_;rw [hk2,if_pos (ho.term_above hlt)]
   rw [hb] at h4;exact h4
  ·exact h4
 rw [if_neg hk] at hd;clear hk;by_cases hk:c.kind=5
 ·rw [if_pos hk] at hd;cases hd;rw [LgL.Ju (by omega) (by omega) (by omega) (by omega)];exact lg_5 h ho hr hv hc (hkk.trans hk)
 rw [if_neg hk] at hd;clear hk;by_cases hk:c.kind=6
 ·rw [if_pos hk] at hd;cases hd;rw [LgL.Ju (by omega) (by omega) (by omega) (by omega)];exact lg_6 h ho hr hv hc (hkk.trans hk) fi
 rw [if_neg hk] at hd;clear hk;by_cases hk:c.kind=7
 ·rw [if_pos hk] at hd;cases hd;rw [LgL.Ju (by omega) (by omega) (by omega) (by omega)];exact lg_7 h ho hr hv hc (hkk.trans hk) fa
 rw [if_neg hk] at hd;clear hk;by_cases hk:c.kind=8
 ·rw [if_pos hk] at hd;unfold LgL.limA;rw [if_pos (.inl hk)];split at hd
  ·rename_i hle
   unfold LgL.cut at hd;split at hd
   ·cases hd
   split at hd
   ·rename_i hlo
    cases hd;exact (lg_8l h ho hr hv hc (hkk.trans hk) hlo hle).mono fun _ _ ⟨V,h1,h2,h3⟩=>⟨V,h1,by simpa [LAns.none] using h2,h3⟩
   ·rename_i hlo
    unfold LgL.rangeB at hd;split at hd
    ·cases hd
    ·cases hd;exact lg_8 h ho hr hv hc (hkk.trans hk) (by omega) hle
  ·rename_i hle
   cases hd;exact (lg_8h h ho hr hv hc (hkk.trans hk) (by omega)).mono fun _ _ ⟨V,h1,h2,h3⟩=>⟨V,h1,by simpa [LAns.none] using h2,h3⟩
 rw [if_neg hk] at hd;clear hk;by_cases hk:c.kind=9
 ·rw [if_pos hk] at hd;unfold LgL.limA;rw [if_pos (.inr hk)];unfold LgL.cut at hd;split at hd
  ·cases hd
  rename_i hab
  split at hd
  ·rename_i hlo
   cases hd;exact (lg_9l h ho hr hv hc (hkk.trans hk) (by omega) hlo).mono fun _ _ ⟨V,h1,h2,h3⟩=>⟨V,h1,by simpa [LAns.none] using h2,h3⟩
  ·rename_i hlo
   unfold LgL.rangeB at hd;split at hd
   ·cases hd
   ·cases hd;exact lg_9 h ho hr hv hc (hkk.trans hk) (by omega) (by omega) (by omega)
 rw [if_neg hk] at hd;clear hk;by_cases hk:c.kind=10
 ·rw [if_pos hk] at hd;cases hd;rw [LgL.Ju (by omega) (by omega) (by omega) (by omega)];exact lg_10 h ho hr hv hc (hkk.trans hk)
 rw [if_neg hk] at hd;clear hk;by_cases hk:c.kind=11
 ·rw [if_pos hk] at hd;cases hd;rw [LgL.Ju (by omega) (by omega) (by omega) (by omega)];exact lg_11 h ho hr hv hc (hkk.trans hk)
 rw [if_neg hk] at hd;clear hk;by_cases hk:c.kind=12
 ·rw [if_pos hk] at hd;cases hd;rw [LgL.Ju (by omega) (by omega) (by omega) (by omega)];exact lg_12 h ho hr hv hc (hkk.trans hk)
 rw [if_neg hk] at hd;clear hk;by_cases hk:c.kind=15
 ·rw [if_pos hk] at hd;unfold LgL.limA;rw [if_neg (by omega),if_pos hk];unfold LgL.nextS at hd;have h15:=lg_15 h ho hr hv hc (hkk.trans hk);unfold LgL.nextL at h15;split at hd
  ·rename_i hp
   cases hd;rw [if_pos hp] at h15;exact (h15 (fun h1 h2=>by rcases hp with hp|hp;rw [h1] at hp;cases hp;rw [h2] at hp;cases hp)).mono fun _ _ ⟨V,h1,h2,h3⟩=>⟨V,h1,by simpa [LAns.none] using h2,h3⟩
  rename_i hp
  rw [if_neg hp] at h15;split at hd
  ·rename_i hm
   cases hd;rw [if_pos hm] at h15;exact (h15 (fun _ _ h3=>by omega)).mono fun _ _ ⟨V,h1,h2,h3⟩=>⟨V,h1,by simpa [LAns.none] using h2,h3⟩
  rename_i hm
  rw [if_neg hm] at h15;split at hd
  ·cases hd
  ·rename_i hsz
   unfold LgL.rangeB at hd;split at hd
   ·cases hd
   ·rename_i hrg
    cases hd;have hmin:min g.size g.usg=g.usg:=by omega
    rw [hmin];exact h15 (fun _ _ _=>⟨by omega,by omega⟩)
 rw [if_neg hk] at hd;clear hk;by_cases hk:c.kind=16
 ·rw [if_pos hk] at hd;cases hd;rw [LgL.Ju (by omega) (by omega) (by omega) (by omega)];exact lg_16 h ho hr hv hc (hkk.trans hk)
 rw [if_neg hk] at hd;clear hk;by_cases hk:c.kind=17
 ·rw [if_pos hk] at hd;cases hd;rw [LgL.Ju (by omega) (by omega) (by omega) (by omega)];exact lg_17 h ho hr hv hc (hkk.trans hk)
 rw [if_neg hk] at hd;clear hk;by_cases hk:c.kind=20
 ·rw [if_pos hk] at hd;cases hd;rw [LgL.Ju (by omega) (by omega) (by omega) (by omega)];exact lg_20 h ho hr hv hc (hkk.trans hk)
 rw [if_neg hk] at hd;clear hk;by_cases hk:c.kind=21
 ·rw [if_pos hk] at hd;cases hd;rw [LgL.Ju (by omega) (by omega) (by omega) (by omega)];exact lg_21 h ho hr hv hc (hkk.trans hk)
 rw [if_neg hk] at hd;clear hk;by_cases hk:c.kind=22
 ·rw [if_pos hk] at hd;cases hd;rw [LgL.Ju (by omega) (by omega) (by omega) (by omega)];exact lg_22 h ho hr hv hc (hkk.trans hk)
 rw [if_neg hk] at hd;clear hk;by_cases hk:c.kind=27
 ·rw [if_pos hk] at hd;cases hd;rw [LgL.Ju (by omega) (by omega) (by omega) (by omega)];split
  ·rename_i hg
   exact lg_27 h ho hr hv hc (hkk.trans hk) hg
  ·rename_i hg
   exact lg_27n h ho hr hv hc (hkk.trans hk) (by
    rcases hh:g.u.has with _|_
    ·exact .inl rfl
    ·rcases h2:g.u.going with _|_
     ·exact absurd ⟨hh,h2⟩ hg
     ·exact .inr rfl)
 rw [if_neg hk] at hd;clear hk;by_cases hk:c.kind=28
 ·rw [if_pos hk] at hd;cases hd;rw [LgL.Ju (by omega) (by omega) (by omega) (by omega)];exact lg_28 h ho hr hv hc (hkk.trans hk)
 rw [if_neg hk] at hd;clear hk;by_cases hk:c.kind=29
 ·rw [if_pos hk] at hd;cases hd;rw [LgL.Ju (by omega) (by omega) (by omega) (by omega)];exact lg_29 h ho hr hv hc (hkk.trans hk)
 rw [if_neg hk] at hd;clear hk;by_cases hk:c.kind=30
 ·rw [if_pos hk] at hd;cases hd;rw [LgL.Ju (by omega) (by omega) (by omega) (by omega)];exact lg_30 h ho hr hv hc (hkk.trans hk)
 rw [if_neg hk] at hd;clear hk;by_cases hk:c.kind=31
 ·rw [if_pos hk] at hd;unfold LgL.rangeB at hd;split at hd
  ·cases hd
  ·cases hd;rw [LgL.Ju (by omega) (by omega) (by omega) (by omega)];have h31:=lg_31 h ho hr hv hc (hkk.trans hk);rw [lim_all (LgL.range_ok ho _ _) (LgL.range_len ho _ _)] at h31;exact h31
 rw [if_neg hk] at hd;cases hd
end
end Go.Proofs.YtmagnkjodjmojaaGreat
