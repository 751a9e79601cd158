/- A part of the proof of FnLog: laws and walks, with their conditions written at each. -/
import Derived.Deep.CutBlock
import Derived.Deep.DeepCutAuto
import Derived.StillTailTactics
import Derived.Test.YtmagnkjodjmojaaGreatQ16
import Derived.Test.YtmagnkjodjmojaaGreatQ17
import Derived.Test.YtmagnkjodjmojaaGreatQ18
import Derived.Test.YtmagnkjodjmojaaGreatQ19
import Derived.Test.YtmagnkjodjmojaaGreatQ20
import Derived.Test.YtmagnkjodjmojaaGreatQ21
import Derived.Test.YtmagnkjodjmojaaGreatQ23
import Derived.Test.YtmagnkjodjmojaaGreatQ24
import Derived.Test.YtmagnkjodjmojaaGreatQ25
import Derived.Test.YtmagnkjodjmojaaGreatQ35
set_option maxRecDepth 20000
set_option maxHeartbeats 4000000
set_option linter.all false
namespace Go.Proofs.YtmagnkjodjmojaaGreat
open Go.RowKit
def LgL.limA (g:LgL) (c:LCall) (A:LAns):LAns:=
 if c.kind=8∨c.kind=9 then {A with es:=A.es.take (lim A.es c.c)}
 else if c.kind=15 then {A with es:=A.es.take (lim A.es (g.size - min g.size g.usg))}
 else if c.kind=34∧c.st.kind=5 then {A with es:=A.es.take (lim A.es c.st.c)} else A
theorem LgL.Ju {g:LgL} {c:LCall} {A:LAns} (h8:c.kind≠8) (h9:c.kind≠9) (h15:c.kind≠15) (h34:c.kind≠34):g.limA c A=A:=by
 unfold LgL.limA;rw [if_neg (by omega),if_neg h15,if_neg (by omega)]
theorem lim_all {es:List Ent} (h:AllOk es) (hl:es.length≤40000):es.take (lim es 18446744073709551615)=es:=by
 rcases Nat.eq_zero_or_pos es.length with h0|h0
 ·obtain rfl:=List.eq_nil_of_length_eq_zero h0;rfl
 ·have:=lim_prop h 18446744073709551615 h0
  obtain ⟨h1,h2,h3⟩:=this;have hle:=lim_le es 18446744073709551615;rcases Nat.lt_or_ge (lim es 18446744073709551615) es.length with hlt|hge
  ·exfalso;have h4:=(sumS_bd h (lim es 18446744073709551615+1) hlt).2;omega
  ·exact List.take_of_length_le hge
theorem TlL.append_keep {u u':TlL} {l:List Ent} (h:u.append l=some u'):u'.has=u.has∧u'.snap=u.snap:=by
 unfold TlL.append at h;split at h
 ·cases h
 split at h
 ·cases h
 split at h
 ·cases h;exact ⟨rfl,rfl⟩
 ·cases h;exact ⟨rfl,rfl⟩
section
variable {N:Nat} {w w':World} {J:LId} {g g':LgL} {v:Jc} {c:LCall} {A:LAns} {rb:Nat}
theorem lgMaybe (hc:c.Ok) (ho:g.Ok) (ho':g'.Ok) (hd:g.maybe c=some (A,g')):∃X Y,rowB c.es=true∧A= {LAns.none with n:=X,flag:=Y}∧∀(W:World) (t:SlV),Jf N W J g→PArr N W 0 t c.es→(∀b o b' o',J.I.es.A=some ⟨b,o,none⟩→t.A=some ⟨b',o',none⟩→b≠b')→
   Calls Tryz.prog 142 #[.pointer (some ⟨J.l,0,none⟩),.agg #[.int .u64 c.a,.int .u64 c.pT,.int .u64 c.pI,.slice t.A t.n t.c],.int .u64 c.b] W fun e w'=>e=.returned (.tuple #[.int .u64 X,.bool Y])∧LgR N W J g' w':=by
 unfold LgL.maybe at hd;split at hd
 ·cases hd
 rename_i hx
 have hrow:rowB c.es=true:=by rcases hb:rowB c.es with _|_;exact absurd (.inl hb) hx;rfl
 have hval:LgL.validB c.a c.pT c.pI c.es=true:=by rcases hb:LgL.validB c.a c.pT c.pI c.es with _|_;exact absurd (.inr (.inl hb)) hx;rfl
 have hpI:c.pI<4611686018427387904:=by unfold farI at hx;omega
 have hok:=hc.es.ok hrow;have hok':AllOk' c.es:=fun j hj=>⟨(hok j hj).i0,(hok j hj).i1⟩;split at hd
 ·rename_i hm
  cases hd;exact ⟨0,false,hrow,rfl,fun W t h hp _=>(lgMaybe_no h ho hc.pi0 hpI hm).mono fun _ _ ⟨h1,h2,h3⟩=>⟨h1,LgR.ms h h2 h3⟩⟩
 rename_i hm
 have hm:g.matches c.pT c.pI=true:=by simpa using hm
 split at hd
 ·rename_i hcf
  split at hd
  ·cases hd
  rename_i hcm
  rcases g.conflict_at c.es with h0|⟨j,hj,hcj⟩
  ·omega
  unfold LgL.validB at hval;rw [decide_eq_true_eq] at hval;have hij:=(hval.1 j hj).1;rw [hij] at hcj;rw [show (g.conflict c.es - c.pI - 1).toNat=j by omega] at hd;rcases ha:g.append (c.es.drop j) with _|g1
  ·rw [ha] at hd;cases hd
  rw [ha] at hd;simp only [Option.bind_some] at hd;rcases hb:g1.commit? (min c.b (c.pI+c.es.length)) with _|g2
  ·rw [hb] at hd;cases hd
  rw [hb] at hd;cases hd;obtain ⟨u',hu',rfl,_⟩:=LgL.append_some ha (by simp;omega);have hk:=TlL.append_keep hu';have e:g'=({g with u:=u'}:LgL).commit (min c.b (c.pI+c.es.length)):=by
   unfold LgL.commit? at hb;split at hb
   ·cases hb
   ·cases hb;rfl
  have ho1:({g with u:=u'}:LgL).Ok:=LgL.Ok.ofCommit ho (e ▸ho') rfl rfl rfl rfl hk.1 hk.2;have hl:=(LgL.commit_ok? ho1 hb).2;subst e;exact ⟨_,true,hrow,rfl,fun W t h hp hsep=>(lgMaybe_app h ho hp hok' (by have:=hc.len;omega) hc.pi0 hpI hm hj hcj (by omega) ha ho1 hl hsep).mono fun _ _ ⟨h1,h2,h3⟩=>⟨h1,h2,h3⟩⟩
 ·rename_i hcf
  have h0:g.conflict c.es=0:=by
   rcases g.conflict_at c.es with h0|⟨j,hj,hcj⟩
   ·exact h0
   ·have:=(hok j hj).i0;omega
  rcases hb:g.commit? (min c.b (c.pI+c.es.length)) with _|g2
  ·rw [hb] at hd;cases hd
  rw [hb] at hd;cases hd;obtain ⟨rfl,hl⟩:=LgL.commit_ok? ho hb;exact ⟨_,true,hrow,rfl,fun W t h hp _=>(lgMaybe_all h ho hp hok' (by have:=hc.len;omega) hc.pi0 hpI hm h0 hl).mono fun _ _ ⟨h1,h2,h3⟩=>⟨h1,⟨J,rfl,h2⟩,h3⟩⟩
theorem LgL.Ok.term_above (ho:g.Ok) {i:Int} (h:g.last<i):(g.term i).2≠0:=by
 have hlo:=ho.last_lt;have hn:g.u.term i=none:=by
  refine TlL.term_none ?_ ?_
  ·rintro ⟨h1,h2⟩;unfold LgL.last at h;unfold TlL.end_ at*;split at h
   ·omega
   ·omega
  ·rintro ⟨h1,h2,h3⟩;unfold LgL.last at h;have:=ho.u.t1;have:=ho.u.t2;have:=ho.u.hs h1;unfold TlL.end_ at*;split at h
   ·omega
   ·omega
 unfold LgL.term;rw [hn];simp only;split
 ·decide
 ·decide
theorem lgAny (h:Jf N w J g) (ho:g.Ok) (ho':g'.Ok) (hr:Blk w rb 94 #[.pointer (some ⟨J.I.ms,0,none⟩),.pointer (some ⟨J.l,0,none⟩)]) (hv:v.Rd N w c) (hc:c.Ok) (hd:LDo g c=some (A,g')):
  Calls Tryz.prog 43 #[.pointer (some ⟨rb,0,none⟩),.agg v.cells] w fun e w'=>∃V:Ja,e=.returned (.agg V.cells)∧V.Rd N w' (g.limA c A)∧LgR N w J g' w':=by
 have hkk:=hv.kind;unfold LDo at hd;by_cases hfar:farI≤c.a∨farI≤c.b∨farI≤c.atI
 ·rw [if_pos hfar] at hd;cases hd
 rw [if_neg hfar] at hd;unfold farI at hfar;have fa:c.a<4611686018427387904:=by omega
 have fb:c.b<4611686018427387904:=by omega
 have fi:c.atI<4611686018427387904:=by omega
 clear hfar;by_cases hk:c.kind=1
 ·rw [if_pos hk] at hd;rcases ha:g.append c.es with _|g1
  ·rw [ha] at hd;cases hd
  ·rw [ha] at hd;cases hd;rw [LgL.Ju (by omega) (by omega) (by omega) (by omega)];exact lg_1 h ho hr hv hc (hkk.trans hk) ha ho'
 rw [if_neg hk] at hd;clear hk;by_cases hk:c.kind=2
 ·rw [if_pos hk] at hd;obtain ⟨X,Y,hrow,rfl,hM⟩:=lgMaybe (N:=N) (J:=J) hc ho ho' hd;rw [LgL.Ju (by omega) (by omega) (by omega) (by omega)];exact lg_2 h ho hr hv hc (hkk.trans hk) hrow hM
 rw [if_neg hk] at hd;clear hk;by_cases hk:c.kind=13
 ·rw [if_pos hk] at hd;rcases ha:g.commit? c.a with _|g1
  ·rw [ha] at hd;cases hd
  ·rw [ha] at hd;cases hd;obtain ⟨rfl,hl⟩:=LgL.commit_ok? ho ha;rw [LgL.Ju (by omega) (by omega) (by omega) (by omega)];exact lg_13 h ho hr hv hc (hkk.trans hk) hl
 rw [if_neg hk] at hd;clear hk;by_cases hk:c.kind=14
 ·rw [if_pos hk] at hd;have h14:=lg_14 h ho hr hv hc (hkk.trans hk) fi;unfold LgL.maybeCommit at h14;rw [LgL.Ju (by omega) (by omega) (by omega) (by omega)];split at hd
  ·rename_i hm
   cases hd;rw [hm,if_pos rfl] at h14;exact h14
  ·rename_i hm
   cases hd;rw [Bool.not_eq_true] at hm;rw [hm,if_neg (by decide)] at h14;exact h14
 rw [if_neg hk] at hd;clear hk;by_cases hk:c.kind=18
 ·rw [if_pos hk] at hd;split at hd
  ·cases hd
  ·rename_i h1
   unfold farI at h1;cases hd;rw [LgL.Ju (by omega) (by omega) (by omega) (by omega)];exact lg_18 h ho hr hv hc (hkk.trans hk) (by omega) fb (by omega)
 rw [if_neg hk] at hd;clear hk;by_cases hk:c.kind=19
 ·rw [if_pos hk] at hd;split at hd
  ·cases hd
  ·rename_i h1
   cases hd;rw [LgL.Ju (by omega) (by omega) (by omega) (by omega)];exact lg_19 h ho hr hv hc (hkk.trans hk) (by omega) (by omega) fb
 rw [if_neg hk] at hd;clear hk;by_cases hk:c.kind=23
 ·rw [if_pos hk] at hd;cases hd;rw [LgL.Ju (by omega) (by omega) (by omega) (by omega)];exact lg_23 h ho hr hv hc (hkk.trans hk)
 rw [if_neg hk] at hd;clear hk;by_cases hk:c.kind=24
 ·rw [if_pos hk] at hd;cases hd;rw [LgL.Ju (by omega) (by omega) (by omega) (by omega)];exact lg_24 h ho hr hv hc (hkk.trans hk) fi
 rw [if_neg hk] at hd;clear hk;by_cases hk:c.kind=25
 ·rw [if_pos hk] at hd;cases hd;rw [LgL.Ju (by omega) (by omega) (by omega) (by omega)];exact lg_25 h ho hr hv hc (hkk.trans hk)
 rw [if_neg hk] at hd;clear hk;by_cases hk:c.kind=26
 ·rw [if_pos hk] at hd;split at hd
  ·cases hd
  ·rename_i h1
   unfold farI at h1;cases hd;rw [LgL.Ju (by omega) (by omega) (by omega) (by omega)];exact lg_26 h ho hr hv hc (hkk.trans hk) (by omega)
 rw [if_neg hk] at hd;clear hk;by_cases hk:c.kind=34
 ·rw [if_pos hk] at hd;rcases hs:SDo g.s c.st with _|⟨A1,s1⟩
  ·rw [hs] at hd;cases hd
  ·rw [hs] at hd;cases hd;have h34:=lg_34 h ho hr hv hc (hkk.trans hk) hs;unfold LgL.limA;unfold SAns.lim at h34;rw [if_neg (by omega),if_neg (by omega)];by_cases h5:c.st.kind=5
   ·rw [if_pos ⟨hk,h5⟩];rw [if_pos h5] at h34;exact h34
   ·rw [if_neg (by omega)];rw [if_neg h5] at h34;exact h34
 rw [if_neg hk] at hd;clear hk;unfold LgL.ask at hd;by_cases hk:c.kind=3
 ·rw [if_pos hk] at hd;split at hd
  ·rename_i hrow
   cases hd;rw [LgL.Ju (by omega) (by omega) (by omega) (by omega)];exact lg_3 h ho hr hv hc (hkk.trans hk) hrow
  ·cases hd
 rw [if_neg hk] at hd;clear hk;by_cases hk:c.kind=4
 ·rw [if_pos hk] at hd;cases hd;rw [LgL.Ju (by omega) (by omega) (by omega) (by omega)];have h4:=lg_4 h ho hr hv hc (hkk.trans hk) fa;split
  ·rename_i hlt
   have hl:=ho.last_lt;obtain ⟨k,hk⟩:∃k,c.a.toNat=k+1:=⟨c.a.toNat - 1,by omega⟩;have hk2:((k+1:Nat):Int)=c.a:=by omega
   rw [hk] at h4;have hb:g.byTerm c.b (k+1)=(c.a,0):=by
    show (if (g.term ((k+1:Nat):Int)).2≠0 then _ else _)=_;rw [hk2,if_pos (ho.term_above hlt)]
   rw [hb] at h4;exact h4
  ·exact h4
 rw [if_neg hk] at hd;clear hk;by_cases hk:c.kind=5
 ·rw [if_pos hk] at hd;cases hd;rw [LgL.Ju (by omega) (by omega) (by omega) (by omega)];exact lg_5 h ho hr hv hc (hkk.trans hk)
 rw [if_neg hk] at hd;clear hk;by_cases hk:c.kind=6
 ·rw [if_pos hk] at hd;cases hd;rw [LgL.Ju (by omega) (by omega) (by omega) (by omega)];exact lg_6 h ho hr hv hc (hkk.trans hk) fi
 rw [if_neg hk] at hd;clear hk;by_cases hk:c.kind=7
 ·rw [if_pos hk] at hd;cases hd;rw [LgL.Ju (by omega) (by omega) (by omega) (by omega)];exact lg_7 h ho hr hv hc (hkk.trans hk) fa
 rw [if_neg hk] at hd;clear hk;by_cases hk:c.kind=8
 ·rw [if_pos hk] at hd;unfold LgL.limA;rw [if_pos (.inl hk)];split at hd
  ·rename_i hle
   unfold LgL.cut at hd;split at hd
   ·cases hd
   split at hd
   ·rename_i hlo
    cases hd;exact (lg_8l h ho hr hv hc (hkk.trans hk) hlo hle).mono fun _ _ ⟨V,h1,h2,h3⟩=>⟨V,h1,by simpa [LAns.none] using h2,h3⟩
   ·rename_i hlo
    unfold LgL.rangeB at hd;split at hd
    ·cases hd
    ·cases hd;exact lg_8 h ho hr hv hc (hkk.trans hk) (by omega) hle
  ·rename_i hle
   cases hd;exact (lg_8h h ho hr hv hc (hkk.trans hk) (by omega)).mono fun _ _ ⟨V,h1,h2,h3⟩=>⟨V,h1,by simpa [LAns.none] using h2,h3⟩
 rw [if_neg hk] at hd;clear hk;by_cases hk:c.kind=9
 ·rw [if_pos hk] at hd;unfold LgL.limA;rw [if_pos (.inr hk)];unfold LgL.cut at hd;split at hd
  ·cases hd
  rename_i hab
  split at hd
  ·rename_i hlo
   cases hd;exact (lg_9l h ho hr hv hc (hkk.trans hk) (by omega) hlo).mono fun _ _ ⟨V,h1,h2,h3⟩=>⟨V,h1,by simpa [LAns.none] using h2,h3⟩
  ·rename_i hlo
   unfold LgL.rangeB at hd;split at hd
   ·cases hd
   ·cases hd;exact lg_9 h ho hr hv hc (hkk.trans hk) (by omega) (by omega) (by omega)
 rw [if_neg hk] at hd;clear hk;by_cases hk:c.kind=10
 ·rw [if_pos hk] at hd;cases hd;rw [LgL.Ju (by omega) (by omega) (by omega) (by omega)];exact lg_10 h ho hr hv hc (hkk.trans hk)
 rw [if_neg hk] at hd;clear hk;by_cases hk:c.kind=11
 ·rw [if_pos hk] at hd;cases hd;rw [LgL.Ju (by omega) (by omega) (by omega) (by omega)];exact lg_11 h ho hr hv hc (hkk.trans hk)
 rw [if_neg hk] at hd;clear hk;by_cases hk:c.kind=12
 ·rw [if_pos hk] at hd;cases hd;rw [LgL.Ju (by omega) (by omega) (by omega) (by omega)];exact lg_12 h ho hr hv hc (hkk.trans hk)
 rw [if_neg hk] at hd;clear hk;by_cases hk:c.kind=15
 ·rw [if_pos hk] at hd;unfold LgL.limA;rw [if_neg (by omega),if_pos hk];unfold LgL.nextS at hd;have h15:=lg_15 h ho hr hv hc (hkk.trans hk);unfold LgL.nextL at h15;split at hd
  ·rename_i hp
   cases hd;rw [if_pos hp] at h15;exact (h15 (fun h1 h2=>by rcases hp with hp|hp;rw [h1] at hp;cases hp;rw [h2] at hp;cases hp)).mono fun _ _ ⟨V,h1,h2,h3⟩=>⟨V,h1,by simpa [LAns.none] using h2,h3⟩
  rename_i hp
  rw [if_neg hp] at h15;split at hd
  ·rename_i hm
   cases hd;rw [if_pos hm] at h15;exact (h15 (fun _ _ h3=>by omega)).mono fun _ _ ⟨V,h1,h2,h3⟩=>⟨V,h1,by simpa [LAns.none] using h2,h3⟩
  rename_i hm
  rw [if_neg hm] at h15;split at hd
  ·cases hd
  ·rename_i hsz
   unfold LgL.rangeB at hd;split at hd
   ·cases hd
   ·rename_i hrg
    cases hd;have hmin:min g.size g.usg=g.usg:=by omega
    rw [hmin];exact h15 (fun _ _ _=>⟨by omega,by omega⟩)
 rw [if_neg hk] at hd;clear hk;by_cases hk:c.kind=16
 ·rw [if_pos hk] at hd;cases hd;rw [LgL.Ju (by omega) (by omega) (by omega) (by omega)];exact lg_16 h ho hr hv hc (hkk.trans hk)
 rw [if_neg hk] at hd;clear hk;by_cases hk:c.kind=17
 ·rw [if_pos hk] at hd;cases hd;rw [LgL.Ju (by omega) (by omega) (by omega) (by omega)];exact lg_17 h ho hr hv hc (hkk.trans hk)
 rw [if_neg hk] at hd;clear hk;by_cases hk:c.kind=20
 ·rw [if_pos hk] at hd;cases hd;rw [LgL.Ju (by omega) (by omega) (by omega) (by omega)];exact lg_20 h ho hr hv hc (hkk.trans hk)
 rw [if_neg hk] at hd;clear hk;by_cases hk:c.kind=21
 ·rw [if_pos hk] at hd;cases hd;rw [LgL.Ju (by omega) (by omega) (by omega) (by omega)];exact lg_21 h ho hr hv hc (hkk.trans hk)
 rw [if_neg hk] at hd;clear hk;by_cases hk:c.kind=22
 ·rw [if_pos hk] at hd;cases hd;rw [LgL.Ju (by omega) (by omega) (by omega) (by omega)];exact lg_22 h ho hr hv hc (hkk.trans hk)
 rw [if_neg hk] at hd;clear hk;by_cases hk:c.kind=27
 ·rw [if_pos hk] at hd;cases hd;rw [LgL.Ju (by omega) (by omega) (by omega) (by omega)];split
  ·rename_i hg
   exact lg_27 h ho hr hv hc (hkk.trans hk) hg
  ·rename_i hg
   exact lg_27n h ho hr hv hc (hkk.trans hk) (by
    rcases hh:g.u.has with _|_
    ·exact .inl rfl
    ·rcases h2:g.u.going with _|_
     ·exact absurd ⟨hh,h2⟩ hg
     ·exact .inr rfl)
 rw [if_neg hk] at hd;clear hk;by_cases hk:c.kind=28
 ·rw [if_pos hk] at hd;cases hd;rw [LgL.Ju (by omega) (by omega) (by omega) (by omega)];exact lg_28 h ho hr hv hc (hkk.trans hk)
 rw [if_neg hk] at hd;clear hk;by_cases hk:c.kind=29
 ·rw [if_pos hk] at hd;cases hd;rw [LgL.Ju (by omega) (by omega) (by omega) (by omega)];exact lg_29 h ho hr hv hc (hkk.trans hk)
 rw [if_neg hk] at hd;clear hk;by_cases hk:c.kind=30
 ·rw [if_pos hk] at hd;cases hd;rw [LgL.Ju (by omega) (by omega) (by omega) (by omega)];exact lg_30 h ho hr hv hc (hkk.trans hk)
 rw [if_neg hk] at hd;clear hk;by_cases hk:c.kind=31
 ·rw [if_pos hk] at hd;unfold LgL.rangeB at hd;split at hd
  ·cases hd
  ·cases hd;rw [LgL.Ju (by omega) (by omega) (by omega) (by omega)];have h31:=lg_31 h ho hr hv hc (hkk.trans hk);rw [lim_all (LgL.range_ok ho _ _) (LgL.range_len ho _ _)] at h31;exact h31
 rw [if_neg hk] at hd;cases hd
end
def DoR (N:Nat) (w:World) (l:Nat) (A:StK) (B:TlK) (X:Option (LAns×LgL)) (e:Ending) (w':World):Prop:=
 ∃(V:Ja) (bb:Bool) (A':StK) (B':TlK) (g':LgL),e=.returned (.tuple #[.agg V.cells,.bool bb])∧A'.b=A.b∧B'.b=B.b∧Ka N w' l A' B' g'∧Upd (spS l A B) w w'∧(X=none→bb=false)∧(∀An g1,X=some (An,g1)→bb=true∧(∃U:Ja,V=U.beh g1∧U.Rd N w' An)∧g'=g1)
structure DoS (N:Nat) (wa:World) (l:Nat) (A:StK) (B:TlK) (ab:Nat) (V:Ja) (A':StK) (B':TlK) (g':LgL) (W:World):Prop where
 lg:Ka N W l A' B' g'
 an:Blk W ab 48 V.cells
 up:Upd (fun k=>spS l A B k∨k=ab) wa W
 hA:A'.b=A.b
 hB:B'.b=B.b
def DoC (N:Nat) (wa:World) (l:Nat) (A:StK) (B:TlK) (ab:Nat) (X:Option (LAns×LgL)) (v:Value) (W:World):Prop:=
 ∃(V:Ja) (bb:Bool) (A':StK) (B':TlK) (g':LgL),v=.bool bb∧DoS N wa l A B ab V A' B' g' W∧(X=none→bb=false)∧(∀An g1,X=some (An,g1)→bb=true∧V.Rd N W An∧g'=g1)
def DoX (N:Nat) (wa:World) (l:Nat) (A:StK) (B:TlK) (ab:Nat) (g:LgL) (X:Option (SAns×StL)) (v w:Value) (W:World):Prop:=
 ∃(x:Nat) (bb:Bool) (V:Jb) (A2:StK) (s2:StL),v=.pointer (some ⟨x,0,none⟩)∧w=.bool bb∧x≠ab∧Blk W x 69 V.cells∧DoS N wa l A B ab Ja.nil A2 B {g with s:=s2} W∧(X=none→bb=false)∧(∀An s',X=some (An,s')→bb=true∧V.Rd N W An∧s'=s2)
section
variable {N:Nat} {w w' w0 wa W W':World} {S:Nat→Prop} {A A' A2:StK} {s:StL} {B B' B2:TlK} {u:TlL} {l p ab:Nat} {g g' g2:LgL} {V:Ja}
theorem DoS.start (h:Ka N wa l A B g) (hb:Blk wa ab 48 V.cells):DoS N wa l A B ab V A B g wa:=⟨h,hb,Upd.refl _ _,rfl,rfl⟩
theorem DoS.step (h:DoS N wa l A B ab V A' B' g' W) (hs:Ka N W' l A2 B2 g2) (hu:Upd (spS l A' B') W W') (hA:A2.b=A'.b) (hB:B2.b=B'.b):DoS N wa l A B ab V A2 B2 g2 W':=
 ⟨hs,h.an.upd hu (h.lg.nab h.an),h.up.Ke (hu.mono fun k hk=>.inl (by unfold spS at*;rw [h.hA,h.hB] at hk;exact hk)),hA.trans h.hA,hB.trans h.hB⟩
theorem DoS.no (h:DoS N wa l A B ab V A' B' g' W) (hu:Upd No W W'):DoS N wa l A B ab V A' B' g' W':=h.step (h.lg.no hu) hu.ofNo rfl rfl
theorem DoS.set (h:DoS N wa l A B ab V A' B' g' W) (hN:N≤ab) (j:Nat) (x:Value) (V':Ja) (hV:V.cells.setIfInBounds j x=V'.cells):DoS N wa l A B ab V' A' B' g' (W.setCell ⟨ab,j,none⟩ x):=
 have hu:Upd (fun k=>k=ab) W (W.setCell ⟨ab,j,none⟩ x):=(Upd.refl (fun k=>k=ab) W).setIn rfl j x
 ⟨h.lg.at_ab h.an hN hu,hV ▸h.an.set_ j x,h.up.Ke (hu.mono fun _ hk=>.inr hk),h.hA,h.hB⟩
theorem DoS.fin {X:Option (LAns×LgL)} {bb:Bool} (h:DoS N wa l A B ab V A' B' g' W) (h1:X=none→bb=false) (h2:∀An g1,X=some (An,g1)→bb=true∧V.Rd N W An∧g'=g1):DoC N wa l A B ab X (.bool bb) W:=
 ⟨V,bb,A',B',g',rfl,h,h1,h2⟩
theorem DoS.rest (h:DoS N wa l A B ab V A' B' g' W) (hlt:∀k,spS l A B k→k<w.heap.size) (hab:ab=w.heap.size+1+1) {cs:Array Value} (hr:Blk wa (w.heap.size+1) 48 cs):Blk W (w.heap.size+1) 48 cs:=
 hr.upd h.up (by
  intro hk;rcases hk with hk|hk
  ·have:=hlt _ hk;omega
  ·omega)
theorem Jc.inf (v:Jc):(Tryz.prog.info? 45).map (·.size)=some v.cells.size:=(by kernel_rfl:(Tryz.prog.info? 45).map (·.size)=some 34)
theorem SnV.one8 (T:SnV):T.cells.all (·.oneCell')=true:=sn39 T
theorem SnV.inf8 (T:SnV):(Tryz.prog.info? 39).map (·.size)=some T.cells.size:=inf39
theorem Jc.sn_range (v:Jc):∀j,j<8→v.cells[10+j]? =v.sn.cells.toList[j]?:=by
 intro j hj;match j,hj with
 |0,_|1,_|2,_|3,_|4,_|5,_|6,_|7,_=>rfl
 |_+8,h=>exact absurd h (by omega)
theorem Jb.sn_range (V:Jb):∀j,j<8→V.cells[3+j]? =V.sn.cells.toList[j]?:=by
 intro j hj;match j,hj with
 |0,_|1,_|2,_|3,_|4,_|5,_|6,_|7,_=>rfl
 |_+8,h=>exact absurd h (by omega)
theorem Jc.at_range (v:Jc):∀j,j<2→v.cells[5+j]? =(#[.int .u64 v.atT,.int .u64 v.atI]:Array Value).toList[j]?:=by
 intro j hj;match j,hj with
 |0,_|1,_=>rfl
 |_+2,h=>exact absurd h (by omega)
theorem still_load_mid {P:Program} {ops:Array Oper} {o:Oper} {rest:List Oper} {a:Act} {Q:Act→Prop} (hw:Region.wanted o (yielded ops a.tmps)=true) (ty:TypeId) (x:Operand) (ho:o.op=.load ty x)
  (b off:Nat) (hx:a.eval x=.pointer (some ⟨b,off,none⟩)) (cs:Array Value) (d:TypeDesc) (hS:W.rangeAt b off cs.toList) (hu:P.underlying ty=some d) (hd:d.isRow=true) (hi:(P.info? ty).map (·.size)=some cs.size)
  (h:wpStill P ops W Q rest (a.put o.dst (.agg cs))):wpStill P ops W Q (o::rest) a:=by
 refine wpStill_step fun K hK=>?_;rw [if_pos hw];unfold Oper.still execOp;simp only [ho,hx,Instr.loadAt,Instr.sureAddr,Sem.run_bind,Sem.run_pure,Result.andThen_ok,run_loadVar_mid W b off ty cs.toList d hS hu hd (by rw [hi];rfl),Oper.stillUpon_value];exact hK _ h
theorem Kd {P:Program} {ops:Array Oper} {S:World→Prop} {op:Oper} {a:Act} (hw:Region.wanted op (yielded ops a.tmps)=true) (ty:TypeId) (x:Operand) (ho:op.op=.load ty x)
  (b o:Nat) (hx:a.eval x=.pointer (some ⟨b,o,none⟩)) (cs:Array Value) (d:TypeDesc) (hS:∀w,S w→w.rangeAt b o cs.toList)
  (hu:P.underlying ty=some d) (hd:d.isRow=true) (hi:(P.info? ty).map (·.size)=some cs.size):YieldsIf P ops S op (.agg cs) a:=
 yieldsIf_load_mid hw ty x ho b o hx cs.toList d hS hu hd (by rw [hi];rfl)
theorem step_store_mid {P:Program} {ops:Array Oper} {o:Oper} {a:Act} {K:Act→World→Prop} {Q:Exit→Act→World→Prop} {E:Prop} (hgd:o.guard=none) (ty:TypeId) (x y:Operand) (ho:o.op=.store ty x y)
  (b off:Nat) (cells:Array Value) (hx:a.eval x=.pointer (some ⟨b,off,none⟩)) (hy:a.eval y=.agg cells) (t:TypeId) (old new:Array Value) (hB:Blk W b t old) (hnew:∀W,Blk W b t old→Blk (W.setCells b off cells.toList) b t new)
  (hle:off+cells.size≤old.size) (hi:(P.info? ty).map (·.size)=some cells.size) (h1:cells.all (·.oneCell')=true)
  (h:∀w',Blk w' b t new→Upd (fun k=>k=b) W w'→K (a.put o.dst undef) w'):if Region.wanted o (yielded ops a.tmps)=true then Oper.wp P o a W K Q else E:=by
 have hw:Region.wanted o (yielded ops a.tmps)=true:=by simp [Region.wanted,hgd]
 rw [if_pos hw];exact wp_store_mid ty x y ho b off cells hx hy (fun j hj=>⟨by rw [hB.cell,Array.getElem?_eq_getElem (by omega)];rfl,hB.frozen _⟩) hi h1 (h _ (hnew W hB) (upd_setCells _ _ _))
theorem DoS.putBlk {V':Ja} (h:DoS N wa l A B ab V A' B' g' W) (hN:N≤ab) (hu:Upd (fun k=>k=ab) W W') (hb:Blk W' ab 48 V'.cells):DoS N wa l A B ab V' A' B' g' W':=
 ⟨h.lg.at_ab h.an hN hu,hb,h.up.Ke (hu.mono fun _ hk=>.inr hk),h.hA,h.hB⟩
theorem Jc.st_range (v:Jc):∀j,j<16→v.cells[18+j]? =v.st.cells.toList[j]?:=Go.Proofs.YtmagnkjodjmojaaGreat.st_range v
theorem DoS.far (h:DoS N wa l A B ab V A' B' g' W) {x:Nat} (hu:Upd (fun k=>k=x) W W') (hx:x≠ab) (hf:Fr N W W') (hn:¬spS l A B x) (hw:wa.heap.size≤x):DoS N wa l A B ab V A' B' g' W':=
 ⟨h.lg.upd hu hf (fun k hk e=>by subst e;exact hn (by unfold spS at*;rw [h.hA,h.hB] at hk;exact hk)),h.an.upd hu (fun e=>hx e.symm),h.up.trans hu (by rintro k rfl;exact .inr hw),h.hA,h.hB⟩
theorem doFin {X:Option (LAns×LgL)} {wN w9:World} {bb:Bool} {cs:Array Value} (hlt:∀k,spS l A B k→k<w.heap.size) (hNw:N≤w.heap.size) (hu:Upd (fun k=>spS l A B k∨k=w.heap.size+1+1) w wN) (hA:A'.b=A.b) (hB:B'.b=B.b) (hS:Ka N wN l A' B' g')
  (hr:Blk wN (w.heap.size+1) 48 cs) (hu9:Upd (fun k=>k=w.heap.size+1) wN w9) (h1:X=none→bb=false) (h2:∀An g1,X=some (An,g1)→bb=true∧(∃U:Ja,V=U.beh g1∧U.Rd N wN An)∧g'=g1):
  DoR N w l A B X (.returned (.tuple #[.agg V.cells,.bool bb])) w9:=by
 have hf9:=hu9.fr (N:=N) (by rintro k rfl;exact hr.mutb (by omega) rfl);refine ⟨V,bb,A',B',g',rfl,hA,hB,hS.upd hu9 hf9 ?_,?_,h1,fun An s' he=>?_⟩
 ·intro k hk e;have:=hlt k (by unfold spS at*;rw [hA,hB] at hk;exact hk);omega
 ·refine ((Upd.refl (spS l A B) w).trans hu ?_).trans hu9 ?_
  ·rintro k (hk|rfl)
   ·exact .inl hk
   ·exact .inr (by omega)
  ·rintro k rfl;exact .inr (Nat.le_succ _)
 ·obtain ⟨h3,⟨U,h4,h5⟩,h6⟩:=h2 An s' he;exact ⟨h3,⟨U,h4,h5.fr hf9⟩,h6⟩
structure DoE (N:Nat) (w:World) (l:Nat) (A:StK) (B:TlK) (g:LgL) (v:Jc) (c:LCall) (wa:World) (kd:Int):Prop where
 hwa:((w.alloc (.cells v.cells 45)).alloc (.cells Z48 48)).alloc (.cells Z48 48)=wa
 lt:Hid (∀k,spS l A B k→k<w.heap.size)
 nw:Hid (N≤w.heap.size)
 nb:Hid (N≤w.heap.size+1+1)
 ua:Hid (Upd No w wa)
 pb:Hid (Blk wa w.heap.size 45 v.cells)
 rb:Hid (Blk wa (w.heap.size+1) 48 Ja.nil.cells)
 ab:Hid (Blk wa (w.heap.size+1+1) 48 Ja.nil.cells)
 sa:Hid (Ka N wa l A B g)
 va:Hid (v.Rd N wa c)
 hc:Hid c.Ok
 hp:Hid g.Pre
 ho:Hid g.Ok
 hs:Hid g.Sm
 hd:Hid (DoS N wa l A B (w.heap.size+1+1) Ja.nil A B g wa)
 p0:wa.cell? ⟨w.heap.size,0,none⟩=some (.int .i64 kd)
 p1:wa.cell? ⟨w.heap.size,1,none⟩=some (.int .u64 c.a)
 p2:wa.cell? ⟨w.heap.size,2,none⟩=some (.int .u64 c.b)
 p6:wa.cell? ⟨w.heap.size,6,none⟩=some (.int .u64 c.atI)
 hk:Hid (c.kind=kd)
 k1:wa.cell? ⟨l,1,none⟩=some (.pointer (some ⟨B.b,0,none⟩))
 k0:wa.cell? ⟨l,0,none⟩=some (.pointer (some ⟨A.b,0,none⟩))
 ln:Hid (g.u.es.length+60≤20000)
theorem DoS.sees (h:DoS N wa l A B ab V A' B' g' W):W.cell? ⟨l,2,none⟩=some (.int .u64 g'.com)∧W.cell? ⟨l,3,none⟩=some (.int .u64 g'.apg)∧W.cell? ⟨l,4,none⟩=some (.int .u64 g'.apd)∧W.cell? ⟨l,7,none⟩=some (.bool g'.paused)∧
  W.cell? ⟨ab,16,none⟩=some (.int .u64 V.com)∧W.cell? ⟨ab,17,none⟩=some (.int .u64 V.apg)∧W.cell? ⟨ab,18,none⟩=some (.int .u64 V.apd)∧W.cell? ⟨ab,19,none⟩=some (.bool V.paused):=
 ⟨h.lg.c 2,h.lg.c 3,h.lg.c 4,h.lg.c 7,h.an.cell 16,h.an.cell 17,h.an.cell 18,h.an.cell 19⟩
theorem DoS.last (h:DoS N wa l A B (w.heap.size+1+1) V A' B' g' W) (hlt:∀k,spS l A B k→k<w.heap.size) (hnb:N≤w.heap.size+1+1) (hua:Upd No w wa) (hr:Blk wa (w.heap.size+1) 48 Ja.nil.cells):
  ∃w8,w8=((((W.setCell ⟨(w.heap.size+1+1),16,none⟩ (.int .u64 g'.com)).setCell ⟨(w.heap.size+1+1),17,none⟩ (.int .u64 g'.apg)).setCell ⟨(w.heap.size+1+1),18,none⟩ (.int .u64 g'.apd)).setCell ⟨(w.heap.size+1+1),19,none⟩ (.bool g'.paused)).drew∧Hid (Blk w8 (w.heap.size+1+1) 48 (V.beh g').cells)∧Hid (Ka N w8 l A' B' g')∧Hid (Blk w8 (w.heap.size+1) 48 Ja.nil.cells)∧Hid (Upd (fun k=>spS l A B k∨k=(w.heap.size+1+1)) w w8)∧Hid (Fr N W w8):=by
 have HU8:Upd (fun k=>k=(w.heap.size+1+1)) W (((((W.setCell ⟨(w.heap.size+1+1),16,none⟩ (.int .u64 g'.com)).setCell ⟨(w.heap.size+1+1),17,none⟩ (.int .u64 g'.apg)).setCell ⟨(w.heap.size+1+1),18,none⟩ (.int .u64 g'.apd)).setCell ⟨(w.heap.size+1+1),19,none⟩ (.bool g'.paused)).drew):=(((((Upd.refl (fun k=>k=(w.heap.size+1+1)) W).setIn rfl 16 _).setIn rfl 17 _).setIn rfl 18 _).setIn rfl 19 _).drew
 exact ⟨_,rfl,qq ((((h.an.set_ 16 _).set_ 17 _).set_ 18 _).set_ 19 _).drew,qq (h.lg.at_ab h.an hnb HU8),qq ((h.rest hlt rfl hr).upd HU8 (by omega)),
  qq ((hua.ofNo.Ke h.up).Ke (HU8.mono fun k hk=>.inr hk)),qq (HU8.fr (N:=N) (by intro k hk;rw [hk];exact h.an.mutb hnb rfl))⟩
theorem doE (h:Ka N w l A B g) (hp:g.Pre) (ho:g.Ok) (hln:g.u.es.length+60≤20000) {v:Jc} {c:LCall} (hv:v.Rd N w c) (hc:c.Ok):∃wa kd,DoE N w l A B g v c wa kd:=by
 have hs:=hp.isSm;have hva:=hv.a;have hvb:=hv.b;have hvi:=hv.atI;have hNw:N≤w.heap.size:=Nat.le_trans h.N (Nat.le_of_lt h.blk.lt)
 have HLT:=qq (show ∀k,spS l A B k→k<w.heap.size from fun k hk=>by
  rcases hk with rfl|rfl|rfl
  ·exact h.blk.lt
  ·exact h.st.blk.lt
  ·exact h.tl.blk.lt)
 have HNW:=qq hNw;have HNB:=qq (show N≤(w.heap.size+1+1) by omega);obtain ⟨wa,hwa⟩:∃W,((w.alloc (.cells v.cells 45)).alloc (.cells Z48 48)).alloc (.cells Z48 48)=W:=⟨_,rfl⟩;have HUA:=qq (show Upd No w wa by rw [←hwa];exact (((Upd.refl No w).alloc _).alloc _).alloc _);have HPB:=qq (show Blk wa w.heap.size 45 v.cells by rw [←hwa];exact ((Blk.new w _ _).alloc _).alloc _);have HRB:=qq (show Blk wa (w.heap.size+1) 48 Ja.nil.cells by rw [←hwa];exact (Blk.new_ (by simp)).alloc _);have HAB:=qq (show Blk wa (w.heap.size+1+1) 48 Ja.nil.cells by rw [←hwa];exact Blk.new_ (by simp));have HSA:=qq (h.no HUA.out);have HVA:=qq (hv.fr HUA.out.fr0);have HC:=qq hc;have HP:=qq hp;have HO:=qq ho;have HS:=qq hs;have HD:=qq (DoS.start (V:=Ja.nil) HSA.out HAB.out);have p1:wa.cell? ⟨w.heap.size,1,none⟩=some (.int .u64 c.a):=by rw [←hva];exact HPB.out.cell 1
 have p2:wa.cell? ⟨w.heap.size,2,none⟩=some (.int .u64 c.b):=by rw [←hvb];exact HPB.out.cell 2
 have p6:wa.cell? ⟨w.heap.size,6,none⟩=some (.int .u64 c.atI):=by rw [←hvi];exact HPB.out.cell 6
 have hkc:=hv.kind;obtain ⟨kd,hkd⟩:∃k,k=v.kind:=⟨_,rfl⟩;have p0:wa.cell? ⟨w.heap.size,0,none⟩=some (.int .i64 kd):=by rw [hkd];exact HPB.out.cell 0
 have HK:=qq (show c.kind=kd from (hkd.trans hkc).symm);have k1:wa.cell? ⟨l,1,none⟩=some (pp B.b):=HSA.out.c 1;have k0:wa.cell? ⟨l,0,none⟩=some (pp A.b):=HSA.out.c 0;have HLN:=qq hln;exact ⟨wa,kd,hwa,HLT,HNW,HNB,HUA,HPB,HRB,HAB,HSA,HVA,HC,HP,HO,HS,HD,p0,p1,p2,p6,HK,k1,k0,HLN⟩
end
end Go.Proofs.YtmagnkjodjmojaaGreat
