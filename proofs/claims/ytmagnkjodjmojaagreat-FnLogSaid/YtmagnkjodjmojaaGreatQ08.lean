/- A part of the proof of FnLog: laws and walks, with their conditions written at each. -/
import Derived.Test.YtmagnkjodjmojaaGreatQ07
set_option maxRecDepth 20000
set_option maxHeartbeats 4000000
set_option linter.all false
namespace Go.Proofs.YtmagnkjodjmojaaGreat
open Go.RowKit
section
variable {N:Nat} {w:World} {I:SId} {s:StL} {J:LId} {g:LgL}
theorem ensConf {p:Nat} {c:Conf} (h:PbConf N w p c):
  Calls Tryz.prog 186 #[.pointer (some ⟨p,0,none⟩)] w fun e w'=>e=.returned (.pointer (some ⟨p,0,none⟩))∧w=w':=by
 obtain ⟨s1,s2,s3,s4,ap,hb,_,_,_,_,_,⟨b,rfl⟩,_⟩:=h;have c4:w.cell? ⟨p,4,none⟩=some (pp b):=hb.cell 4;clear hb;go_enter Tryz.func186,Tryz.ntmps186;go_wp2;go_ret;exact ⟨rfl,rfl⟩
theorem ensMeta {p:Nat} {i t:Int} {c:Conf} (h:PbMeta N w p i t c):
  Calls Tryz.prog 122 #[.pointer (some ⟨p,0,none⟩)] w fun e w'=>e=.returned (.pointer (some ⟨p,0,none⟩))∧w=w':=by
 obtain ⟨cf,ix,tm,hb,hc,hi,ht⟩:=h;have z0:w.cell? ⟨p,0,none⟩=some (pp cf):=hb.cell 0;have z1:w.cell? ⟨p,1,none⟩=some (pp ix):=hb.cell 1;have z2:w.cell? ⟨p,2,none⟩=some (pp tm):=hb.cell 2;have HC:=qq (ensConf hc);clear hb hc hi ht;go_enter Tryz.func122,Tryz.ntmps122;go_wp2_with fail
 refine HC.out.mono ?_;rintro r w1 ⟨rfl,rfl⟩;go_wp2;go_ret;exact ⟨rfl,rfl⟩
theorem Kf.mta {sn md:Nat} {s:Snap} (h:Kf N w sn md s):PbMeta N w md s.index s.term s.cf:=by
 obtain ⟨ds,cf,ix,tm,hb,hm,hd,hc,hi,ht,_⟩:=h;exact ⟨cf,ix,tm,hm,hc,hi,ht⟩
theorem Kf.z1 {sn md:Nat} {s:Snap} (h:Kf N w sn md s):w.cell? ⟨sn,1,none⟩=some (.pointer (some ⟨md,0,none⟩)):=by
 obtain ⟨ds,cf,ix,tm,hb,_⟩:=h;exact hb.cell 1
theorem ensSnap {sn md:Nat} {s:Snap} (h:Kf N w sn md s):
  Calls Tryz.prog 69 #[.pointer (some ⟨sn,0,none⟩)] w fun e w'=>e=.returned (.pointer (some ⟨sn,0,none⟩))∧w=w':=by
 have z1:=h.z1;have HC:=qq (ensMeta h.mta);clear h;go_enter Tryz.func69,Tryz.ntmps69;go_wp2_with fail
 refine HC.out.mono ?_;rintro r w1 ⟨rfl,rfl⟩;go_wp2;go_ret;exact ⟨rfl,rfl⟩
theorem Je.set1 (h:Je N w I s):Je N (w.setCell ⟨I.ms,1,none⟩ (.pointer (some ⟨I.sn,0,none⟩))) I s:=by
 have hu:Upd (fun k=>k=I.ms) w (w.setCell ⟨I.ms,1,none⟩ (pp I.sn)):=(Upd.refl (fun k=>k=I.ms) w).setCell (a:=⟨I.ms,1,none⟩) (.inl rfl) _;refine h.stats hu ?_;obtain ⟨hp,k1,k2,k3,k4,k5,k6,hb,hh⟩:=h.blk;exact ⟨hp,k1,k2,k3,k4,k5,k6,hb.set_ 1 _,hh⟩
theorem Je.y1 (h:Je N w I s):w.frozen? ⟨I.ms,1,none⟩=false:=by
 obtain ⟨hp,k1,k2,k3,k4,k5,k6,hb,hh⟩:=h.blk;exact hb.frozen 1
theorem Je.no {w':World} (h:Je N w I s) (hu:Upd No w w'):Je N w' I s:=h.upd hu hu.fr0 (fun h=>h) (fun h=>h) (fun h=>h) (fun _ _ _ h=>h)
theorem stSnap (h:Je N w I s) (ho:s.Ok):
  Calls Tryz.prog 133 #[.pointer (some ⟨I.ms,0,none⟩)] w fun e w'=>∃q m,e=.returned (.tuple #[.pointer (some ⟨q,0,none⟩),.nilIface])∧Kf N w' q m s.snap∧Je N w' I s∧Upd (fun k=>k=I.ms) w w':=by
 obtain ⟨k,c8,y8⟩:=h.stat (j:=8) (by omega) (by omega);have HB:=qq (fun v=>h.bump (j:=8) (by omega) (by omega) v);have c1:=h.c1;have y1:=h.y1;have HE:=qq fun (w:World) (h:Je N w I s)=>ensSnap h.sn;have HC:=qq fun (w:World) (h:Je N w I s)=>snapClone N I.sn I.md s.snap w h.sn ho.small;clear h ho;go_enter Tryz.func133,Tryz.ntmps133;go_wp2_with fail
 refine (HE.out _ (HB.out _).1).mono ?_;rintro r w1 ⟨rfl,rfl⟩;go_wp2_with fail
 refine (HC.out _ (HB.out _).1.set1).mono ?_;rintro r w1 ⟨q,m,rfl,hS,hU,_,_⟩;go_wp2;go_ret2;exact ⟨q,m,rfl,hS,(HB.out _).1.set1.no hU,((HB.out _).2.setIn rfl _ _).no hU⟩
theorem lgSnap (h:Jf N w J g) (ho:g.Ok):
  Calls Tryz.prog 180 #[.pointer (some ⟨J.l,0,none⟩)] w fun e w'=>∃q m,e=.returned (.tuple #[.pointer (some ⟨q,0,none⟩),.nilIface])∧Kf N w' q m (if g.u.has=true then g.u.snap else g.s.snap)∧Jf N w' J g∧Upd (fun k=>k=J.I.ms) w w':=by
 have c0:=h.c0;have c1:=h.c1;have HH:=qq h;rcases h.us with ⟨h1,h2⟩|⟨sn,h1,h2,h3,_⟩
 ·rw [h1] at c1;rw [h2,if_neg (by decide)];have HC:=qq (stSnap h.st ho.s);have fi:∀a w,(method 385 86 (.pointer (some a)) "Snapshot").run Tryz.prog w=.ok (133,.pointer (some a)) w:=fun a w=>by kernel_rfl
  clear h ho h1 h2;go_enter Tryz.func180,Tryz.ntmps180;go_wp2_with fail
  refine HC.out.mono ?_;rintro r w1 ⟨q,m,rfl,hS,hR,hU⟩;go_wp2;go_ret2;exact ⟨q,m,rfl,hS,HH.out.stats hR hU,hU⟩
 ·rw [h1] at c1;rw [h2,if_pos rfl];have HC:=qq (snapClone N sn J.um g.u.snap w h3 ho.u.small);clear h ho h1 h2 h3;go_enter Tryz.func180,Tryz.ntmps180;go_wp2_with fail
  refine HC.out.mono ?_;rintro r w1 ⟨q,m,rfl,hS,hU,_,_⟩;go_wp2;go_ret2;exact ⟨q,m,rfl,hS,HH.out.no hU,hU.ofNo⟩
end
def LU (N:Nat) (w:World) (k:Nat):Prop:=N≤k∧∃T,Ty w k T∧logT T=true
theorem LU.trans {N:Nat} {w w' w'':World} (h:Upd (LU N w) w w') (k:Upd (LU N w') w' w''):Upd (LU N w) w w'':=
 h.trans k fun j ⟨h1,T,h2,h3⟩=>by
  rcases Nat.lt_or_ge j w.heap.size with hl|hl
  ·refine .inl ?_;by_cases hj:LU N w j
   ·exact hj
   ·obtain ⟨cs,fz,h2⟩:=h2;exact ⟨h1,T,⟨cs,fz,(h.keep j hl hj).symm.trans h2⟩,h3⟩
  ·exact .inr hl
theorem logT_imm {T:TypeId} (h:logT T=true):immT T=false:=by
 unfold logT at h;simp at h;rcases h with ((((rfl|rfl)|rfl)|rfl)|rfl)<;>rfl
theorem LU.fr {N:Nat} {w w':World} (h:Upd (LU N w) w w'):Fr N w w':=h.fr fun _ ⟨h1,T,h2,h3⟩=>⟨h1,.inr ⟨T,h2,logT_imm h3⟩⟩
section
variable {N:Nat} {w w':World} {J:LId} {g:LgL}
theorem Jf.lu_ms (h:Jf N w J g) (hu:Upd (fun k=>k=J.I.ms) w w'):Upd (LU N w) w w':=hu.mono (by rintro k rfl;exact ⟨h.st.N,_,h.ms_ty,rfl⟩)
theorem Jf.lu_l (h:Jf N w J g):LU N w J.l:=⟨h.N,_,h.blk.ty,rfl⟩
theorem Jf.fz (h:Jf N w J g) (j:Nat):w.frozen? ⟨J.l,j,none⟩=false:=h.blk.frozen j
theorem Jf.put (h:Jf N w J g) (j:Nat) (v:Value) (g':LgL) (hc:(logCells J.I.ms J.up J.ue g).setIfInBounds j v=logCells J.I.ms J.up J.ue g') (hs:g'.s=g.s) (he:g'.u.es=g.u.es) (hn:g'.u.snap=g.u.snap) (hh:g'.u.has=g.u.has):
  Jf N (w.setCell ⟨J.l,j,none⟩ v) J g'∧Upd (LU N w) w (w.setCell ⟨J.l,j,none⟩ v):=by
 have hu:Upd (fun k=>k=J.l) w (w.setCell ⟨J.l,j,none⟩ v):=(Upd.refl (fun k=>k=J.l) w).setIn rfl j v;have hf:Fr N w (w.setCell ⟨J.l,j,none⟩ v):=hu.fr (by rintro k rfl;exact h.blk.mutb h.N rfl);obtain ⟨_,_,_,_,_,_,_,hb,_⟩:=id h.st.blk;obtain ⟨_,_,_,_,hb1,hm1,_⟩:=id h.st.sn;refine ⟨⟨?_,?_,?_,?_,h.N,h.sep⟩,hu.mono (by rintro k rfl;exact h.lu_l)⟩
 ·rw [←hc];exact h.blk.set_ j v
 ·rw [hs];refine h.st.upd hu hf (fun hk=>h.msl hk.symm) (fun hk=>hb1.ne_ h.blk (by decide) hk) (fun hk=>hm1.ne_ h.blk (by decide) hk) ?_;intro b o hA hk;obtain ⟨g',o'',cs,hA'',hB,_⟩:=h.st.es.arr (by have:=h.st.es.cap;have:=h.st.es.len;simp at this;omega);rw [hA] at hA'';cases hA'';exact hB.ne_ h.blk (by decide) hk
 ·rw [he];exact h.ue.upd_ hu hf (by rintro b rfl ht;exact h.blk.ty.ne_ ht (by decide) rfl)
 ·rw [hn,hh];rcases h.us with h1|⟨sn,h1,h2,h3,h4⟩
  ·exact .inl h1
  ·obtain ⟨_,_,_,_,hb1,hm1,_⟩:=id h3;exact .inr ⟨sn,h1,h2,h3.upd hu hf (fun hk=>hb1.ne_ h.blk (by decide) hk) (fun hk=>hm1.ne_ h.blk (by decide) hk),h4⟩
def LgL.commit (g:LgL) (n:Int):LgL:={g with com:=if g.com<n then n else g.com}
theorem lgCommit (h:Jf N w J g) (ho:g.Ok) {n:Int} (hn:n≤g.last):
  Calls Tryz.prog 158 #[.pointer (some ⟨J.l,0,none⟩),.int .u64 n] w fun e w'=>e=.returned (.tuple #[])∧Jf N w' J (g.commit n)∧Upd (LU N w) w w':=by
 have c6:=h.c6;have HH:=qq h;have HL:=qq (lgLast h ho);by_cases hlt:g.com<n
 ·have hG:g.commit n= {g with com:=n}:=by unfold LgL.commit;rw [if_pos hlt]
  rw [hG];have HP:=qq fun (w:World) (h:Jf N w J g)=>h.put 6 (.int .u64 n) {g with com:=n} rfl rfl rfl rfl rfl;clear h ho hG;go_enter Tryz.func158,Tryz.ntmps158;go_wp2_with fail
  refine HL.out.mono ?_;rintro r w1 ⟨rfl,hR,hU⟩;have c6':=hR.c6;have y6:=hR.fz 6;go_wp2;go_end0;exact ⟨rfl,(HP.out _ hR).1,LU.trans (HH.out.lu_ms hU) (HP.out _ hR).2⟩
 ·have hG:g.commit n=g:=by unfold LgL.commit;rw [if_neg hlt]
  rw [hG];clear h ho hG;go_enter Tryz.func158,Tryz.ntmps158;go_wp2;go_end0;exact ⟨rfl,HH.out,Upd.refl _ _⟩
theorem LgL.Ok.there (ho:g.Ok) {i:Int} (h:(g.term i).2=0):i≤g.last:=by
 unfold LgL.term at h;rcases ht:g.u.term i with _|t
 ·rw [ht] at h;simp only at h;split at h
  ·cases h
  split at h
  ·cases h
  ·omega
 ·unfold TlL.term at ht;have hs:=ho.u.hs;unfold LgL.last;split at ht
  ·rename_i h1
   rw [if_pos (by unfold TlL.end_ at h1;omega)];omega
  split at ht
  ·rename_i h1 h2
   have:=hs h2.1
   split
   ·unfold TlL.end_;omega
   ·rw [if_pos h2.1];omega
  ·cases ht
def LgL.mc (g:LgL) (t i:Int):Bool:=decide (t≠0) && decide (g.com<i) && g.matches t i
def LgL.maybeCommit (g:LgL) (t i:Int):LgL:=if g.mc t i=true then g.commit i else g
theorem LgL.maybeCommit_no {g:LgL} {t i:Int} (h:g.mc t i=false):g.maybeCommit t i=g:=by unfold LgL.maybeCommit;rw [if_neg (by simp [h])]
theorem LgL.maybeCommit_yes {g:LgL} {t i:Int} (h:g.mc t i=true):g.maybeCommit t i=g.commit i:=by unfold LgL.maybeCommit;rw [if_pos h]
theorem lgMaybeCommit (h:Jf N w J g) (ho:g.Ok) {t i:Int} (hi0:0≤i) (hi:i<4611686018427387904):
  Calls Tryz.prog 159 #[.pointer (some ⟨J.l,0,none⟩),.agg #[.int .u64 t,.int .u64 i]] w fun e w'=>e=.returned (.bool (g.mc t i))∧Jf N w' J (g.maybeCommit t i)∧Upd (LU N w) w w':=by
 have HH:=qq h;have c6:=h.c6;have hls:=ho.there (i:=i);have HM:=qq fun (w:World) (h:Jf N w J g)=>lgMatch h ho (t:=t) hi0 (show i<4611686018427387905 by omega);have HC:=qq fun (w:World) (h:Jf N w J g) (hn:i≤g.last)=>lgCommit h ho hn;have hml:g.matches t i=true→i≤g.last:=by
  intro hm;unfold LgL.matches at hm;simp at hm;exact hls hm.1
 have hms:w.heap.size≠J.I.ms:=by have:=h.ms_ty.lt;omega
 have hl:J.l≠w.heap.size:=by have:=h.blk.lt;omega
 have hlm:=h.msl;have d6:=fun o=>cell_alloc (o:=o) c6;clear h ho hls c6;by_cases ht:t=0
 ·subst ht;have hm:g.mc 0 i=false:=by unfold LgL.mc;simp
  rw [hm,LgL.maybeCommit_no hm];clear hm;go_enter Tryz.func159,Tryz.ntmps159;go_wp2_with fail
  go_quiet (fail)
  go_wp2;go_ret;exact ⟨rfl,HH.out.no (((Upd.refl No w).alloc _).drewN _),(((Upd.refl No w).alloc _).drewN _).ofNo⟩
 ·have ht':(t==0)=false:=beq_eq_false_iff_ne.2 ht;by_cases hc:g.com<i
  ·have hmc:g.mc t i=g.matches t i:=by unfold LgL.mc;simp [ht,hc]
   rcases hM:g.matches t i with _|_
   ·rw [hM] at hmc HM;rw [hmc,LgL.maybeCommit_no hmc];have HT:=qq ht;have hd1:(t !=0)=true:=by rw [bne_iff_ne];exact ht
    have hd2:decide (g.com<i)=true:=by rw [decide_eq_true_eq];exact hc
    have hR1:=qq fun (o:Obj)=>HH.out.no (((Upd.refl No w).alloc o).drew);have hU1:=qq fun (o:Obj)=>(((Upd.refl (fun k=>k=J.I.ms) w).alloc o).drew);clear ht hmc hM hml;go_enter Tryz.func159,Tryz.ntmps159;go_wp2_with fail
    have b0:(w.alloc (Obj.cells #[.int .u64 t,.int .u64 i] 146)).drew.cell? ⟨w.heap.size,0,none⟩=some (.int .u64 t):=by simp
    have b1:(w.alloc (Obj.cells #[.int .u64 t,.int .u64 i] 146)).drew.cell? ⟨w.heap.size,1,none⟩=some (.int .u64 i):=by simp
    go_region_held3 (fun w'=>w'.cell? ⟨w.heap.size,0,none⟩=some (.int .u64 t)∧w'.cell? ⟨w.heap.size,1,none⟩=some (.int .u64 i)∧w'.cell? ⟨J.l,6,none⟩=some (.int .u64 g.com)∧Jf N w' J g∧Upd (fun k=>k=J.I.ms) w w')
     (first
      |(with_reducible exact ⟨b0,b1,Jf.c6 (hR1.out _),hR1.out _,hU1.out _⟩)
      |(with_reducible exact ⟨u1.cell g0 hms,u1.cell g1 hms,Jf.c6 r1,r1,Upd.Ke gU u1⟩))
     (first
      |(go_at_call 146;obtain ⟨g0,g1,g6,gR,gU⟩:=‹_=_∧_=_∧_=_∧Jf N _ J g∧Upd _ w _›
        first
         |((with_reducible refine (HM.out _ gR).mono ?_);rintro r w1 ⟨rfl,r1,u1⟩)))
    have HGU:=qq (HH.out.lu_ms (Upd.Ke gU u1));clear gU;go_wp2;go_ret;exact ⟨rfl,r1,HGU.out⟩
   ·rw [hM] at hmc HM;have HML:=qq (hml hM);rw [hmc,LgL.maybeCommit_yes hmc];have HT:=qq ht;have hd1:(t !=0)=true:=by rw [bne_iff_ne];exact ht
    have hd2:decide (g.com<i)=true:=by rw [decide_eq_true_eq];exact hc
    have hR1:=qq fun (o:Obj)=>HH.out.no (((Upd.refl No w).alloc o).drew);have hU1:=qq fun (o:Obj)=>(((Upd.refl (fun k=>k=J.I.ms) w).alloc o).drew);clear ht hmc hM hml;go_enter Tryz.func159,Tryz.ntmps159;go_wp2_with fail
    have b0:(w.alloc (Obj.cells #[.int .u64 t,.int .u64 i] 146)).drew.cell? ⟨w.heap.size,0,none⟩=some (.int .u64 t):=by simp
    have b1:(w.alloc (Obj.cells #[.int .u64 t,.int .u64 i] 146)).drew.cell? ⟨w.heap.size,1,none⟩=some (.int .u64 i):=by simp
    go_region_held3 (fun w'=>w'.cell? ⟨w.heap.size,0,none⟩=some (.int .u64 t)∧w'.cell? ⟨w.heap.size,1,none⟩=some (.int .u64 i)∧w'.cell? ⟨J.l,6,none⟩=some (.int .u64 g.com)∧Jf N w' J g∧Upd (fun k=>k=J.I.ms) w w')
     (first
      |(with_reducible exact ⟨b0,b1,Jf.c6 (hR1.out _),hR1.out _,hU1.out _⟩)
      |(with_reducible exact ⟨u1.cell g0 hms,u1.cell g1 hms,Jf.c6 r1,r1,Upd.Ke gU u1⟩))
     (first
      |(go_at_call 146;obtain ⟨g0,g1,g6,gR,gU⟩:=‹_=_∧_=_∧_=_∧Jf N _ J g∧Upd _ w _›
        first
         |((with_reducible refine (HM.out _ gR).mono ?_);rintro r w1 ⟨rfl,r1,u1⟩)))
    have HGU:=qq (HH.out.lu_ms (Upd.Ke gU u1));clear gU;obtain ⟨b0',b1',_⟩:=‹_=_∧_=_∧_=_∧Jf N _ J g∧Upd _ w w1›;go_wp2_with fail
    refine (HC.out _ r1 HML.out).mono ?_;rintro r w2 ⟨rfl,r2,u2⟩;go_wp2;go_ret;exact ⟨rfl,r2,LU.trans HGU.out u2⟩
  ·have hm:g.mc t i=false:=by unfold LgL.mc;simp [hc]
   rw [hm,LgL.maybeCommit_no hm];have hd1:(t !=0)=true:=by rw [bne_iff_ne];exact ht
   have hd2:decide (g.com<i)=false:=by rw [decide_eq_false_iff_not];exact hc
   clear hm;go_enter Tryz.func159,Tryz.ntmps159;go_wp2_with fail
   go_quiet (fail)
   go_wp2;go_ret;exact ⟨rfl,HH.out.no (((Upd.refl No w).alloc _).drewN _),(((Upd.refl No w).alloc _).drewN _).ofNo⟩
end
section
variable {N:Nat} {w w':World} {J:LId} {g:LgL}
theorem Jf.drew (h:Jf N w J g):Jf N w.drew J g:=h.no (Upd.refl No w).drew
theorem lift_drew {w w':World} {b o:Nat} {v:Value} (h:w.drew.cell? ⟨b,o,none⟩=some v) (hw:w.drew=w'):w'.cell? ⟨b,o,none⟩=some v:=hw ▸h
def LgL.applying (g:LgL) (a b:Int) (f:Bool):LgL:={g with apg:=a,usg:=g.usg+b,paused:=decide (g.size≤g.usg+b)||decide (a<g.most f)}
theorem lgApplying (h:Jf N w J g) (ho:g.Ok) {a b:Int} (f:Bool) (ha:a≤g.com) (hb0:0≤b) (hb:b<4611686018427387904) (hu:g.usg<4611686018427387904):
  Calls Tryz.prog 163 #[.pointer (some ⟨J.l,0,none⟩),.int .u64 a,.int .u64 b,.bool f] w fun e w'=>e=.returned (.tuple #[])∧Jf N w' J (g.applying a b f)∧Upd (LU N w) w w':=by
 have g0:=ho.g0;have c6:=h.c6;have c7:=h.c7;have c9:=h.c9;have c10:=h.c10;have c11:=h.c11;have y7:=h.fz 7;have y10:=h.fz 10;have y11:=h.fz 11;have HP1:=qq (h.put 7 (.int .u64 a) {g with apg:=a} rfl rfl rfl rfl rfl);have HP2:=qq (HP1.out.1.put 10 (.int .u64 (g.usg+b)) {g with apg:=a,usg:=g.usg+b} rfl rfl rfl rfl rfl);have HM:=qq fun (w:World) (h:Jf N w J {g with apg:=a,usg:=g.usg+b})=>lgMost0 h ho.u.o1 ho.u.o2 f;have hmost:({g with apg:=a,usg:=g.usg+b}:LgL).most f=g.most f:=rfl;rw [hmost] at HM;have HPD:=qq fun (v:Bool)=>HP2.out.1.put 11 (.bool v) {g with apg:=a,usg:=g.usg+b,paused:=v} rfl rfl rfl rfl rfl;have HU:=qq (LU.trans HP1.out.2 HP2.out.2);by_cases hge:g.size≤g.usg+b
 ·have hG:g.applying a b f= {g with apg:=a,usg:=g.usg+b,paused:=true}:=by unfold LgL.applying;simp [hge]
  rw [hG];have hd:decide (g.size≤g.usg+b)=true:=by rw [decide_eq_true_eq];exact hge
  clear h ho hmost hG;go_enter Tryz.func163,Tryz.ntmps163;go_wp2_with fail
  go_region
  go_wp2;go_end0;exact ⟨rfl,(HPD.out true).1.drew,(LU.trans HU.out (HPD.out true).2).drew⟩
 ·have hG:g.applying a b f= {g with apg:=a,usg:=g.usg+b,paused:=decide (a<g.most f)}:=by unfold LgL.applying;simp [hge]
  rw [hG];have hd:decide (g.size≤g.usg+b)=false:=by rw [decide_eq_false_iff_not];exact hge
  generalize g.most f=M at*;clear h ho hmost hG;go_enter Tryz.func163,Tryz.ntmps163;go_wp2_with fail
  have d9:=HP2.out.1.drew.c9;have d10:=HP2.out.1.drew.c10;have e11:=HP2.out.1.drew.fz 11;have d11:=HP2.out.1.drew.c11;go_region_held3 (fun w'=>w'.cell? ⟨J.l,9,none⟩=some (.int .u64 g.size)∧w'.cell? ⟨J.l,10,none⟩=some (.int .u64 (g.usg+b))∧w'.frozen? ⟨J.l,11,none⟩=false)
   (first
    |(with_reducible exact ⟨d9,d10,e11⟩)
    |(exact ⟨(HPD.out _).1.drew.c9,(HPD.out _).1.drew.c10,(HPD.out _).1.drew.fz 11⟩))
   (first
    |(go_at_call 162
      first
       |((with_reducible refine (HM.out _ HP2.out.1.drew).mono ?_);rintro r w1 ⟨rfl,rfl⟩)))
  go_wp2;go_end0;exact ⟨rfl,(HPD.out _).1.drew,(LU.trans HU.out (HPD.out _).2).drew⟩
def LgL.appl (g:LgL) (a b:Int):LgL:={g with apd:=a,apg:=max g.apg a,usg:=g.usg - min g.usg b,paused:=decide (g.size≤g.usg - min g.usg b)}
theorem lgApplied_1 (h:Jf N w J g) (ho:g.Ok) {a b:Int} (ha:a≤g.com) (ha2:g.apd≤a) (hb0:0≤b) (hb:b<4611686018427387904) (hm:a<g.apg) (hu:b<g.usg):
  Calls Tryz.prog 164 #[.pointer (some ⟨J.l,0,none⟩),.int .u64 a,.int .u64 b] w fun e w'=>e=.returned (.tuple #[])∧Jf N w' J (g.appl a b)∧Upd (LU N w) w w':=by
 have g0:=ho.g0;have g2:=ho.g2;have c6:=h.c6;have c7:=h.c7;have c8:=h.c8;have c9:=h.c9;have c10:=h.c10;have c11:=h.c11;have y7:=h.fz 7;have y8:=h.fz 8;have y10:=h.fz 10;have y11:=h.fz 11;have HP1:=qq (h.put 8 (.int .u64 a) {g with apd:=a} rfl rfl rfl rfl rfl);have hd:decide (g.com<a)=false:=by rw [decide_eq_false_iff_not];omega
 have HP2:=qq (HP1.out.1.put 7 (.int .u64 (g.apg)) {g with apd:=a,apg:=g.apg} rfl rfl rfl rfl rfl);have HP3:=qq (HP2.out.1.put 10 (.int .u64 (g.usg - b)) {g with apd:=a,apg:=g.apg,usg:=g.usg - b} rfl rfl rfl rfl rfl);have HP4:=qq fun (v:Bool)=>HP3.out.1.put 11 (.bool v) {g with apd:=a,apg:=g.apg,usg:=g.usg - b,paused:=v} rfl rfl rfl rfl rfl;have HU:=qq (LU.trans (LU.trans HP1.out.2 HP2.out.2) HP3.out.2);have hG:g.appl a b= {g with apd:=a,apg:=g.apg,usg:=g.usg - b,paused:=decide (g.size≤g.usg - b)}:=by unfold LgL.appl;rw [show max g.apg a=g.apg by omega,show g.usg - min g.usg b=g.usg - b by omega]
 rw [hG];clear h ho hG;go_enter Tryz.func164,Tryz.ntmps164;go_wp2_with fail
 go_region
 go_wp2;go_end0;exact ⟨rfl,(HP4.out _).1.drew,(LU.trans HU.out (HP4.out _).2).drew⟩
theorem lgApplied_2 (h:Jf N w J g) (ho:g.Ok) {a b:Int} (ha:a≤g.com) (ha2:g.apd≤a) (hb0:0≤b) (hb:b<4611686018427387904) (hm:a<g.apg) (hu:g.usg≤b):
  Calls Tryz.prog 164 #[.pointer (some ⟨J.l,0,none⟩),.int .u64 a,.int .u64 b] w fun e w'=>e=.returned (.tuple #[])∧Jf N w' J (g.appl a b)∧Upd (LU N w) w w':=by
 have g0:=ho.g0;have g2:=ho.g2;have c6:=h.c6;have c7:=h.c7;have c8:=h.c8;have c9:=h.c9;have c10:=h.c10;have c11:=h.c11;have y7:=h.fz 7;have y8:=h.fz 8;have y10:=h.fz 10;have y11:=h.fz 11;have HP1:=qq (h.put 8 (.int .u64 a) {g with apd:=a} rfl rfl rfl rfl rfl);have hd:decide (g.com<a)=false:=by rw [decide_eq_false_iff_not];omega
 have HP2:=qq (HP1.out.1.put 7 (.int .u64 (g.apg)) {g with apd:=a,apg:=g.apg} rfl rfl rfl rfl rfl);have HP3:=qq (HP2.out.1.put 10 (.int .u64 (0)) {g with apd:=a,apg:=g.apg,usg:=0} rfl rfl rfl rfl rfl);have HP4:=qq fun (v:Bool)=>HP3.out.1.put 11 (.bool v) {g with apd:=a,apg:=g.apg,usg:=0,paused:=v} rfl rfl rfl rfl rfl;have HU:=qq (LU.trans (LU.trans HP1.out.2 HP2.out.2) HP3.out.2);have hG:g.appl a b= {g with apd:=a,apg:=g.apg,usg:=0,paused:=decide (g.size≤0)}:=by unfold LgL.appl;rw [show max g.apg a=g.apg by omega,show g.usg - min g.usg b=0 by omega]
 rw [hG];clear h ho hG;go_enter Tryz.func164,Tryz.ntmps164;go_wp2_with fail
 go_region
 go_wp2;go_end0;exact ⟨rfl,(HP4.out _).1.drew,(LU.trans HU.out (HP4.out _).2).drew⟩
theorem lgApplied_3 (h:Jf N w J g) (ho:g.Ok) {a b:Int} (ha:a≤g.com) (ha2:g.apd≤a) (hb0:0≤b) (hb:b<4611686018427387904) (hm:g.apg≤a) (hu:b<g.usg):
  Calls Tryz.prog 164 #[.pointer (some ⟨J.l,0,none⟩),.int .u64 a,.int .u64 b] w fun e w'=>e=.returned (.tuple #[])∧Jf N w' J (g.appl a b)∧Upd (LU N w) w w':=by
 have g0:=ho.g0;have g2:=ho.g2;have c6:=h.c6;have c7:=h.c7;have c8:=h.c8;have c9:=h.c9;have c10:=h.c10;have c11:=h.c11;have y7:=h.fz 7;have y8:=h.fz 8;have y10:=h.fz 10;have y11:=h.fz 11;have HP1:=qq (h.put 8 (.int .u64 a) {g with apd:=a} rfl rfl rfl rfl rfl);have hd:decide (g.com<a)=false:=by rw [decide_eq_false_iff_not];omega
 have HP2:=qq (HP1.out.1.put 7 (.int .u64 (a)) {g with apd:=a,apg:=a} rfl rfl rfl rfl rfl);have HP3:=qq (HP2.out.1.put 10 (.int .u64 (g.usg - b)) {g with apd:=a,apg:=a,usg:=g.usg - b} rfl rfl rfl rfl rfl);have HP4:=qq fun (v:Bool)=>HP3.out.1.put 11 (.bool v) {g with apd:=a,apg:=a,usg:=g.usg - b,paused:=v} rfl rfl rfl rfl rfl;have HU:=qq (LU.trans (LU.trans HP1.out.2 HP2.out.2) HP3.out.2);have hG:g.appl a b= {g with apd:=a,apg:=a,usg:=g.usg - b,paused:=decide (g.size≤g.usg - b)}:=by unfold LgL.appl;rw [show max g.apg a=a by omega,show g.usg - min g.usg b=g.usg - b by omega]
 rw [hG];clear h ho hG;go_enter Tryz.func164,Tryz.ntmps164;go_wp2_with fail
 ·go_region
  go_wp2;go_end0;exact ⟨rfl,(HP4.out _).1.drew,(LU.trans HU.out (HP4.out _).2).drew⟩
 ·have he:g.apg=a:=by omega
  have HE:=qq he;clear he;go_region
  go_wp2;go_end0;rw [HE.out];exact ⟨rfl,(HP4.out _).1.drew,(LU.trans HU.out (HP4.out _).2).drew⟩
theorem lgApplied_4 (h:Jf N w J g) (ho:g.Ok) {a b:Int} (ha:a≤g.com) (ha2:g.apd≤a) (hb0:0≤b) (hb:b<4611686018427387904) (hm:g.apg≤a) (hu:g.usg≤b):
  Calls Tryz.prog 164 #[.pointer (some ⟨J.l,0,none⟩),.int .u64 a,.int .u64 b] w fun e w'=>e=.returned (.tuple #[])∧Jf N w' J (g.appl a b)∧Upd (LU N w) w w':=by
 have g0:=ho.g0;have g2:=ho.g2;have c6:=h.c6;have c7:=h.c7;have c8:=h.c8;have c9:=h.c9;have c10:=h.c10;have c11:=h.c11;have y7:=h.fz 7;have y8:=h.fz 8;have y10:=h.fz 10;have y11:=h.fz 11;have HP1:=qq (h.put 8 (.int .u64 a) {g with apd:=a} rfl rfl rfl rfl rfl);have hd:decide (g.com<a)=false:=by rw [decide_eq_false_iff_not];omega
 have HP2:=qq (HP1.out.1.put 7 (.int .u64 (a)) {g with apd:=a,apg:=a} rfl rfl rfl rfl rfl);have HP3:=qq (HP2.out.1.put 10 (.int .u64 (0)) {g with apd:=a,apg:=a,usg:=0} rfl rfl rfl rfl rfl);have HP4:=qq fun (v:Bool)=>HP3.out.1.put 11 (.bool v) {g with apd:=a,apg:=a,usg:=0,paused:=v} rfl rfl rfl rfl rfl;have HU:=qq (LU.trans (LU.trans HP1.out.2 HP2.out.2) HP3.out.2);have hG:g.appl a b= {g with apd:=a,apg:=a,usg:=0,paused:=decide (g.size≤0)}:=by unfold LgL.appl;rw [show max g.apg a=a by omega,show g.usg - min g.usg b=0 by omega]
 rw [hG];clear h ho hG;go_enter Tryz.func164,Tryz.ntmps164;go_wp2_with fail
 ·go_region
  go_wp2;go_end0;exact ⟨rfl,(HP4.out _).1.drew,(LU.trans HU.out (HP4.out _).2).drew⟩
 ·have he:g.apg=a:=by omega
  have HE:=qq he;clear he;go_region
  go_wp2;go_end0;rw [HE.out];exact ⟨rfl,(HP4.out _).1.drew,(LU.trans HU.out (HP4.out _).2).drew⟩
theorem lgApplied (h:Jf N w J g) (ho:g.Ok) {a b:Int} (ha:a≤g.com) (ha2:g.apd≤a) (hb0:0≤b) (hb:b<4611686018427387904):
  Calls Tryz.prog 164 #[.pointer (some ⟨J.l,0,none⟩),.int .u64 a,.int .u64 b] w fun e w'=>e=.returned (.tuple #[])∧Jf N w' J (g.appl a b)∧Upd (LU N w) w w':=by
 rcases Int.lt_or_le a g.apg with hm|hm
 ·rcases Int.lt_or_le b g.usg with hu|hu
  ·exact lgApplied_1 h ho ha ha2 hb0 hb hm hu
  ·exact lgApplied_2 h ho ha ha2 hb0 hb hm hu
 ·rcases Int.lt_or_le b g.usg with hu|hu
  ·exact lgApplied_3 h ho ha ha2 hb0 hb hm hu
  ·exact lgApplied_4 h ho ha ha2 hb0 hb hm hu
end
section
variable {N:Nat} {w w':World} {J:LId} {g:LgL}
theorem Jf.upd_l {v:Value} {j:Nat} (h:Jf N w J g):Upd (fun k=>k=J.l) w (w.setCell ⟨J.l,j,none⟩ v)∧Fr N w (w.setCell ⟨J.l,j,none⟩ v)∧Upd (LU N w) w (w.setCell ⟨J.l,j,none⟩ v):=by
 have hu:Upd (fun k=>k=J.l) w (w.setCell ⟨J.l,j,none⟩ v):=(Upd.refl (fun k=>k=J.l) w).setIn rfl j v;exact ⟨hu,hu.fr (by rintro k rfl;exact h.blk.mutb h.N rfl),hu.mono (by rintro k rfl;exact h.lu_l)⟩
theorem Jf.st_l (h:Jf N w J g) {v:Value} {j:Nat}:Je N (w.setCell ⟨J.l,j,none⟩ v) J.I g.s:=by
 obtain ⟨hu,hf,_⟩:=h.upd_l (v:=v) (j:=j);obtain ⟨_,_,_,_,hb1,hm1,_⟩:=id h.st.sn;refine h.st.upd hu hf (fun hk=>h.msl hk.symm) (fun hk=>hb1.ne_ h.blk (by decide) hk) (fun hk=>hm1.ne_ h.blk (by decide) hk) ?_;intro b o hA hk;obtain ⟨g',o'',cs,hA'',hB,_⟩:=h.st.es.arr (by have:=h.st.es.cap;have:=h.st.es.len;simp at this;omega);rw [hA] at hA'';cases hA'';exact hB.ne_ h.blk (by decide) hk
theorem Jf.putUp (h:Jf N w J g) (up':Option Addr) (um':Nat) (sn':Snap) (has':Bool)
  (hus:(up'=none∧has'=false)∨∃sn,up'=some ⟨sn,0,none⟩∧has'=true∧Kf N w sn um' sn'∧sn≠J.I.sn∧um'≠J.I.md):
  Jf N (w.setCell ⟨J.l,1,none⟩ (.pointer up')) {J with up:=up',um:=um'} {g with u:={g.u with snap:=sn',has:=has'}}∧Upd (LU N w) w (w.setCell ⟨J.l,1,none⟩ (.pointer up')):=by
 obtain ⟨hu,hf,hl⟩:=h.upd_l (v:=.pointer up') (j:=1);refine ⟨⟨h.blk.set_ 1 _,h.st_l,h.ue.upd_ hu hf (by rintro b rfl ht;exact h.blk.ty.ne_ ht (by decide) rfl),?_,h.N,h.sep⟩,hl⟩;rcases hus with h1|⟨sn,h1,h2,h3,h4⟩
 ·exact .inl h1
 ·obtain ⟨_,_,_,_,hb1,hm1,_⟩:=id h3;exact .inr ⟨sn,h1,h2,h3.upd hu hf (fun hk=>hb1.ne_ h.blk (by decide) hk) (fun hk=>hm1.ne_ h.blk (by decide) hk),h4⟩
theorem Jf.putEs (h:Jf N w J g) (ue':SlV) (es':List Ent) (hP:PArr N w 0 ue' es') (hsep:∀b o b' o',J.I.es.A=some ⟨b,o,none⟩→ue'.A=some ⟨b',o',none⟩→0<ue'.c→b≠b'):
  Jf N (w.setCell ⟨J.l,2,none⟩ (.slice ue'.A ue'.n ue'.c)) {J with ue:=ue'} {g with u:={g.u with es:=es'}}∧Upd (LU N w) w (w.setCell ⟨J.l,2,none⟩ (.slice ue'.A ue'.n ue'.c)):=by
 obtain ⟨hu,hf,hl⟩:=h.upd_l (v:=ue'.v) (j:=2);refine ⟨⟨h.blk.set_ 2 _,h.st_l,hP.upd_ hu hf (by rintro b rfl ht;exact h.blk.ty.ne_ ht (by decide) rfl),?_,h.N,hsep⟩,hl⟩;rcases h.us with h1|⟨sn,h1,h2,h3,h4⟩
 ·exact .inl h1
 ·obtain ⟨_,_,_,_,hb1,hm1,_⟩:=id h3;exact .inr ⟨sn,h1,h2,h3.upd hu hf (fun hk=>hb1.ne_ h.blk (by decide) hk) (fun hk=>hm1.ne_ h.blk (by decide) hk),h4⟩
def TlL.accept (u:TlL):TlL:={u with till:=u.end_,going:=u.has}
def LgL.accept (g:LgL):LgL:={g with u:=g.u.accept}
theorem TlL.accept_eq {u:TlL} {t:Int} {b:Bool} (h1:u.end_=t) (h2:u.has=b):u.accept= {u with till:=t,going:=b}:=by subst h1;subst h2;rfl
theorem TlL.till_eq {u:TlL} {t:Int} {b:Bool} (h1:u.till=t): {u with till:=t,going:=b}= {u with going:=b}:=by subst h1;rfl
theorem TlL.going_eq {u:TlL} {b:Bool} (h1:u.going=b): {u with going:=b}=u:=by subst h1;rfl
theorem uAccept (h:Jf N w J g) (ho:g.Ok):
  Calls Tryz.prog 211 #[.pointer (some ⟨J.l,1,none⟩)] w fun e w'=>e=.returned (.tuple #[])∧Jf N w' J g.accept∧Upd (LU N w) w w':=by
 have c1:=h.c1;have c2:=h.c2;have c4:=h.c4;have c5:=h.c5;have y4:=h.fz 4;have y5:=h.fz 5;have hl:=h.ue.len;have hlen:=ho.u.len;have o1:=ho.u.o1;have e2:=ho.u.e2;have hng:=ho.u.ng;have ht1:=ho.u.t1;have ht2:=ho.u.t2;by_cases hn:J.ue.n=0
 ·have hE:g.u.till=g.u.end_:=by unfold TlL.end_ at*;omega
  rw [hn] at c2;rcases h.us with ⟨h1,h2⟩|⟨sn,h1,h2,h3,_⟩
  ·have hG:g.accept=g:=by unfold LgL.accept;rw [TlL.accept_eq rfl h2,TlL.till_eq hE,TlL.going_eq (hng h2)]
   rw [hG];rw [h1] at c1;have HH:=qq h;clear h ho hE hG hn hl hng h1 h2;go_enter Tryz.func211,Tryz.ntmps211;go_wp2;go_end0;exact ⟨rfl,HH.out,Upd.refl _ _⟩
  ·have hG:g.accept= {g with u:={g.u with going:=true}}:=by unfold LgL.accept;rw [TlL.accept_eq rfl h2,TlL.till_eq hE]
   rw [hG];rw [h1] at c1;have HP:=qq (h.put 4 (.bool true) {g with u:={g.u with going:=true}} rfl rfl rfl rfl rfl);clear h ho hE hG hn hl hng h1 h2 h3;go_enter Tryz.func211,Tryz.ntmps211;go_wp2;go_end0;exact ⟨rfl,HP.out.1,HP.out.2⟩
 ·obtain ⟨k,hk⟩:∃k,J.ue.n=k+1:=⟨J.ue.n - 1,by omega⟩;obtain ⟨b,o,p,hA,hc,hpe⟩:=h.ue.at_ (k:=k) (by omega);obtain ⟨_,ip,_,_,q1,_,q3,_⟩:=hpe;have hix:=ho.u.idx k (by omega);have hE:g.u.end_=g.u.off+(k:Int)+1:=by unfold TlL.end_;omega
  rw [hix] at q3;rw [hA] at c2;have hbl:b≠J.l:=by
   obtain ⟨b1,o1,cs,hA1,hB,_⟩:=h.ue.arr (by have:=h.ue.cap;omega);rw [hA] at hA1;cases hA1;exact hB.ne_ h.blk (by decide)
  have hpl:p≠J.l:=q1.ne_ h.blk (by decide);have HP:=qq fun (x:Int)=>h.put 5 (.int .u64 x) {g with u:={g.u with till:=x}} rfl rfl rfl rfl rfl;rcases h.us with ⟨h1,h2⟩|⟨sn,h1,h2,h3,_⟩
  ·have hG:g.accept= {g with u:={g.u with till:=g.u.off+(k:Int)+1}}:=by
    unfold LgL.accept;rw [TlL.accept_eq hE h2];congr 1;exact TlL.going_eq (u:={g.u with till:=g.u.off+(k:Int)+1}) (hng h2)
   rw [hG];rw [h1] at c1;have E2:=qq fun (x:Int)=>(show (w.setCell ⟨J.l,5,none⟩ (.int .u64 x)).drew.cell? ⟨J.l,2,none⟩=some (.slice (some ⟨b,o,none⟩) J.ue.n J.ue.c) by have:=(HP.out x).1.c2;rw [hA] at this;exact this);have EC:=qq fun (x:Int)=>(show (w.setCell ⟨J.l,5,none⟩ (.int .u64 x)).drew.cell? ⟨b,o+k,none⟩=some (pp p) from (h.upd_l (v:=.int .u64 x) (j:=5)).1.cell hc hbl);have EY:=qq fun (x:Int)=>(show (w.setCell ⟨J.l,5,none⟩ (.int .u64 x)).drew.frozen? ⟨J.l,5,none⟩=false from (HP.out x).1.fz 5);have EW:=qq (show IntKind.u64.wrap (g.u.off+(k:Int)+1)=g.u.off+(k:Int)+1 by simp [IntKind.wrap_u64];omega);have E1:=qq fun (x:Int)=>(show (w.setCell ⟨J.l,5,none⟩ (.int .u64 x)).drew.cell? ⟨J.l,1,none⟩=some (.pointer none) by have:=(HP.out x).1.c1;rw [h1] at this;exact this);have DR:=qq (show Fr N w w.drew from ((Upd.refl No w).drew).fr0);have e2':g.u.off+(k:Int)+1≤4611686018427387904:=by omega
   have j0:(0:Int)<(J.ue.n:Int):=by omega
   have j1:(0:Int)≤(J.ue.n:Int) - 1:=by omega
   have j2:(J.ue.n:Int) - 1<(J.ue.n:Int):=by omega
   have j3:((J.ue.n:Int) - 1).toNat=k:=by omega
   have j5:J.ue.n≤20000:=by omega
   have j4:IntKind.i64.wrap ((J.ue.n:Int) - 1)=(J.ue.n:Int) - 1:=by simp [IntKind.wrap_i64];omega
   have j6:(1:Int)≤(J.ue.n:Int):=by omega
   have j7:1≤J.ue.n:=by omega
   have j8:0<J.ue.n:=by omega
   clear h ho hE hG hn hl hng h1 h2 hk hA hix;have d2:w.drew.cell? ⟨J.l,2,none⟩=some (.slice (some ⟨b,o,none⟩) J.ue.n J.ue.c):=c2;have dc:w.drew.cell? ⟨b,o+k,none⟩=some (pp p):=hc;have dy:w.drew.frozen? ⟨J.l,5,none⟩=false:=y5;go_enter Tryz.func211,Tryz.ntmps211;go_wp2_with fail
   go_region_held3 (fun w'=>w'.cell? ⟨J.l,2,none⟩=some (.slice (some ⟨b,o,none⟩) J.ue.n J.ue.c)∧w'.cell? ⟨b,o+k,none⟩=some (pp p)∧w'.frozen? ⟨J.l,5,none⟩=false)
    (first
     |(with_reducible exact ⟨d2,dc,dy⟩)
     |(exact ⟨E2.out _,EC.out _,EY.out _⟩))
    (first
     |(go_at_call 150
       first
        |((with_reducible refine (ent_index (Blk.drew q1) (q3.fr (DR.out) rfl)).mono ?_);rintro r w1 ⟨rfl,rfl⟩)))
   rw [EW.out];have z1:=E1.out (g.u.off+(k:Int)+1);go_wp2;go_end0;exact ⟨rfl,(HP.out _).1.drew,(HP.out _).2.drew⟩
  ·have hG:g.accept= {g with u:={g.u with till:=g.u.off+(k:Int)+1,going:=true}}:=by
    unfold LgL.accept;rw [TlL.accept_eq hE h2]
   have HP2:=qq fun (x:Int)=>(HP.out x).1.drew.put 4 (.bool true) {g with u:={g.u with till:=x,going:=true}} rfl rfl rfl rfl rfl;have E4:=qq fun (x:Int)=>(HP.out x).1.drew.c4;have Y4:=qq fun (x:Int)=>(HP.out x).1.drew.fz 4;rw [hG];rw [h1] at c1;have E2:=qq fun (x:Int)=>(show (w.setCell ⟨J.l,5,none⟩ (.int .u64 x)).drew.cell? ⟨J.l,2,none⟩=some (.slice (some ⟨b,o,none⟩) J.ue.n J.ue.c) by have:=(HP.out x).1.c2;rw [hA] at this;exact this);have EC:=qq fun (x:Int)=>(show (w.setCell ⟨J.l,5,none⟩ (.int .u64 x)).drew.cell? ⟨b,o+k,none⟩=some (pp p) from (h.upd_l (v:=.int .u64 x) (j:=5)).1.cell hc hbl);have EY:=qq fun (x:Int)=>(show (w.setCell ⟨J.l,5,none⟩ (.int .u64 x)).drew.frozen? ⟨J.l,5,none⟩=false from (HP.out x).1.fz 5);have EW:=qq (show IntKind.u64.wrap (g.u.off+(k:Int)+1)=g.u.off+(k:Int)+1 by simp [IntKind.wrap_u64];omega);have E1:=qq fun (x:Int)=>(show (w.setCell ⟨J.l,5,none⟩ (.int .u64 x)).drew.cell? ⟨J.l,1,none⟩=some (pp sn) by have:=(HP.out x).1.c1;rw [h1] at this;exact this);have DR:=qq (show Fr N w w.drew from ((Upd.refl No w).drew).fr0);have e2':g.u.off+(k:Int)+1≤4611686018427387904:=by omega
   have j0:(0:Int)<(J.ue.n:Int):=by omega
   have j1:(0:Int)≤(J.ue.n:Int) - 1:=by omega
   have j2:(J.ue.n:Int) - 1<(J.ue.n:Int):=by omega
   have j3:((J.ue.n:Int) - 1).toNat=k:=by omega
   have j5:J.ue.n≤20000:=by omega
   have j4:IntKind.i64.wrap ((J.ue.n:Int) - 1)=(J.ue.n:Int) - 1:=by simp [IntKind.wrap_i64];omega
   have j6:(1:Int)≤(J.ue.n:Int):=by omega
   have j7:1≤J.ue.n:=by omega
   have j8:0<J.ue.n:=by omega
   clear h ho hE hG hn hl hng h1 h2 h3 hk hA hix;have d2:w.drew.cell? ⟨J.l,2,none⟩=some (.slice (some ⟨b,o,none⟩) J.ue.n J.ue.c):=c2;have dc:w.drew.cell? ⟨b,o+k,none⟩=some (pp p):=hc;have dy:w.drew.frozen? ⟨J.l,5,none⟩=false:=y5;go_enter Tryz.func211,Tryz.ntmps211;go_wp2_with fail
   go_region_held3 (fun w'=>w'.cell? ⟨J.l,2,none⟩=some (.slice (some ⟨b,o,none⟩) J.ue.n J.ue.c)∧w'.cell? ⟨b,o+k,none⟩=some (pp p)∧w'.frozen? ⟨J.l,5,none⟩=false)
    (first
     |(with_reducible exact ⟨d2,dc,dy⟩)
     |(exact ⟨E2.out _,EC.out _,EY.out _⟩))
    (first
     |(go_at_call 150
       first
        |((with_reducible refine (ent_index (Blk.drew q1) (q3.fr (DR.out) rfl)).mono ?_);rintro r w1 ⟨rfl,rfl⟩)))
   rw [EW.out];have z1:=E1.out (g.u.off+(k:Int)+1);have z4:=E4.out (g.u.off+(k:Int)+1);have zy:=Y4.out (g.u.off+(k:Int)+1);go_wp2;go_end0;exact ⟨rfl,(HP2.out _).1,LU.trans (HP.out _).2.drew (HP2.out _).2⟩
theorem lgAccept (h:Jf N w J g) (ho:g.Ok):
  Calls Tryz.prog 168 #[.pointer (some ⟨J.l,0,none⟩)] w fun e w'=>e=.returned (.tuple #[])∧Jf N w' J g.accept∧Upd (LU N w) w w':=by
 have HC:=qq (uAccept h ho);have c1:=h.c1;clear h ho;go_enter Tryz.func168,Tryz.ntmps168;go_wp2_with fail
 refine HC.out.mono ?_;rintro r w1 ⟨rfl,hR,hU⟩;go_wp2;go_end0;exact ⟨rfl,hR,hU⟩
end
def LId.as (J' J:LId):Prop:=(J'.l,J'.I.ms)=(J.l,J.I.ms)
theorem LId.as.l {J' J:LId} (h:J'.as J):J'.l=J.l:=congrArg Prod.fst h
theorem LId.as.ms {J' J:LId} (h:J'.as J):J'.I.ms=J.I.ms:=congrArg Prod.snd h
section
variable {N:Nat} {w w':World} {J:LId} {g:LgL}
def TlL.Jy (u:TlL) (i:Int):TlL:=if u.has=true∧u.snap.index=i then {u with snap:=Snap.zero,has:=false,going:=false} else u
def LgL.Jy (g:LgL) (i:Int):LgL:={g with u:=g.u.Jy i}
theorem Jf.usidx {sn:Nat} (h:Jf N w J g) (h1:J.up=some ⟨sn,0,none⟩):∃(md:Nat) (v0 v1 v2:Value) (ix tm:Option Addr),Blk w sn 189 #[v0,.pointer (some ⟨md,0,none⟩)]∧Blk w md 235 #[v1,.pointer ix,.pointer tm]∧OptInt w 23 .u64 ix g.u.snap.index∧OptInt w 23 .u64 tm g.u.snap.term∧g.u.has=true:=by
 have:=h.rdus
 rw [h1] at this;exact this.index
theorem uStableSnap (h:Jf N w J g) {i:Int}:
  Calls Tryz.prog 213 #[.pointer (some ⟨J.l,1,none⟩),.int .u64 i] w fun e w'=>e=.returned (.tuple #[])∧(∃J',J'.as J∧Jf N w' J' (g.Jy i))∧Upd (LU N w) w w':=by
 have c1:=h.c1;have y1:=h.fz 1;rcases h.us with ⟨h1,h2⟩|⟨sn,h1,h2,h3,_⟩
 ·have hG:g.Jy i=g:=by unfold LgL.Jy TlL.Jy;rw [if_neg (by simp [h2])]
  rw [hG];rw [h1] at c1;have HH:=qq h;clear h hG h1 h2;go_enter Tryz.func213,Tryz.ntmps213;go_wp2;go_end0;exact ⟨rfl,⟨J,rfl,HH.out⟩,Upd.refl _ _⟩
 ·obtain ⟨md,v0,v1,_,ix,tm,q1,q2,q3,_,_⟩:=h.usidx h1;rw [h1] at c1;by_cases he:g.u.snap.index=i
  ·have hG:g.Jy i= {g with u:={g.u with snap:=Snap.zero,has:=false,going:=false}}:=by unfold LgL.Jy TlL.Jy;rw [if_pos ⟨h2,he⟩]
   rw [hG];have HP:=qq (h.putUp none J.um Snap.zero false (.inl ⟨rfl,rfl⟩));have HP2:=qq (HP.out.1.put 4 (.bool false) {g with u:={g.u with snap:=Snap.zero,has:=false,going:=false}} rfl rfl rfl rfl rfl);have c4:=HP.out.1.c4;have y4:=HP.out.1.fz 4;have hq:(g.u.snap.index==i)=true:=by rw [he];exact beq_self_eq_true i
   clear h hG h1 h2 h3 he;go_enter Tryz.func213,Tryz.ntmps213;go_wp2_with fail
   refine (snap_meta q1).mono ?_;rintro r w' ⟨rfl,rfl⟩;go_wp2_with fail
   refine (meta_index q2 q3).mono ?_;rintro r w' ⟨rfl,rfl⟩;go_wp2;go_end0;exact ⟨rfl,⟨{J with up:=none,um:=J.um},rfl,HP2.out.1⟩,LU.trans HP.out.2 HP2.out.2⟩
  ·have hG:g.Jy i=g:=by unfold LgL.Jy TlL.Jy;rw [if_neg (by simp [he])]
   rw [hG];have HH:=qq h;have hq:(g.u.snap.index==i)=false:=beq_eq_false_iff_ne.2 he;clear h hG h1 h2 h3 he;go_enter Tryz.func213,Tryz.ntmps213;go_wp2_with fail
   refine (snap_meta q1).mono ?_;rintro r w' ⟨rfl,rfl⟩;go_wp2_with fail
   refine (meta_index q2 q3).mono ?_;rintro r w' ⟨rfl,rfl⟩;go_wp2;go_end0;exact ⟨rfl,⟨J,rfl,HH.out⟩,Upd.refl _ _⟩
theorem lgStableSnap (h:Jf N w J g) {i:Int}:
  Calls Tryz.prog 170 #[.pointer (some ⟨J.l,0,none⟩),.int .u64 i] w fun e w'=>e=.returned (.tuple #[])∧(∃J',J'.as J∧Jf N w' J' (g.Jy i))∧Upd (LU N w) w w':=by
 have HC:=qq (uStableSnap h (i:=i));have c1:=h.c1;clear h;go_enter Tryz.func170,Tryz.ntmps170;go_wp2_with fail
 refine HC.out.mono ?_;rintro r w1 ⟨rfl,hR,hU⟩;go_wp2;go_end0;exact ⟨rfl,hR,hU⟩
def TlL.restored (s:Snap):TlL:={snap:=s,has:=true,es:=[],off:=s.index+1,going:=false,till:=s.index+1}
def LgL.restore (g:LgL) (s:Snap):LgL:={g with com:=s.index,u:=TlL.restored s}
theorem uRestore {sn md:Nat} {s:Snap} (h:Jf N w J g) (hs:Kf N w sn md s) (hsm:s.small) (hi0:0≤s.index) (hi:s.index<4611686018427387904):
  Calls Tryz.prog 214 #[.pointer (some ⟨J.l,1,none⟩),.pointer (some ⟨sn,0,none⟩)] w fun e w'=>e=.returned (.tuple #[])∧(∃J',J'.as J∧Jf N w' J' {g with u:=TlL.restored s})∧Upd (LU N w) w w':=by
 have c1:=h.c1;have c2:=h.c2;have c3:=h.c3;have c4:=h.c4;have c5:=h.c5;have y1:=h.fz 1;have y2:=h.fz 2;have y3:=h.fz 3;have y4:=h.fz 4;have y5:=h.fz 5;obtain ⟨ds,cf,ix,tm,q1,q2,_,_,q3,_⟩:=id hs;have q3':OptInt w 23 .u64 (some ⟨ix,0,none⟩) s.index:=.inr ⟨_,rfl,q3⟩;have H1:=qq (h.put 3 (.int .u64 (s.index+1)) {g with u:={g.u with off:=s.index+1}} rfl rfl rfl rfl rfl);have H2:=qq (H1.out.1.put 5 (.int .u64 (s.index+1)) {g with u:={g.u with off:=s.index+1,till:=s.index+1}} rfl rfl rfl rfl rfl);have H3:=qq (H2.out.1.putEs ⟨none,0,0⟩ [] (PArr.nil N _ 0) (fun _ _ _ _ _ h=>by cases h));have hS1:Kf N (((w.setCell ⟨J.l,3,none⟩ (.int .u64 (s.index+1))).setCell ⟨J.l,5,none⟩ (.int .u64 (s.index+1))).setCell ⟨J.l,2,none⟩ (.slice none 0 0)) sn md s:=by
  have hu:=((h.upd_l (v:=.int .u64 (s.index+1)) (j:=3)).1.setIn rfl 5 (.int .u64 (s.index+1))).setIn rfl 2 (.slice none 0 0);refine hs.upd hu (hu.fr (by rintro k rfl;exact h.blk.mutb h.N rfl)) (fun hk=>q1.ne_ h.blk (by decide) hk) (fun hk=>q2.ne_ h.blk (by decide) hk)
 have HS:=qq hS1;have hU3:=qq (LU.trans (LU.trans H1.out.2 H2.out.2) H3.out.2);clear hs hS1 h;go_enter Tryz.func214,Tryz.ntmps214;go_wp2_with fail
 refine (snap_meta q1).mono ?_;rintro r w' ⟨rfl,rfl⟩;go_wp2_with fail
 refine (meta_index q2 q3').mono ?_;rintro r w' ⟨rfl,rfl⟩;go_wp2_with fail
 refine (snapClone N sn md s _ HS.out hsm).mono ?_;rintro r w1 ⟨q,m,rfl,hS,hU,lq,lm⟩;have R3:=H3.out.1.no hU;have z1:=R3.c1;have z4:=R3.c4;have f1:=R3.fz 1;have f4:=R3.fz 4;have hne:q≠J.I.sn∧m≠J.I.md:=by
  obtain ⟨_,_,_,_,hb1,hm1,_⟩:=id H3.out.1.st.sn;have t1:J.I.sn<_:=hb1.lt;have t2:J.I.md<_:=hm1.lt;exact ⟨Ne.symm (Nat.ne_of_lt (Nat.lt_of_lt_of_le t1 lq)),Ne.symm (Nat.ne_of_lt (Nat.lt_of_lt_of_le t2 lm))⟩
 have H4:=qq (R3.putUp (some ⟨q,0,none⟩) m s true (.inr ⟨q,rfl,rfl,hS,hne⟩));have H5:=qq (H4.out.1.put 4 (.bool false) {g with u:=TlL.restored s} rfl rfl rfl rfl rfl);go_wp2;go_end0;exact ⟨rfl,⟨{J with up:=some ⟨q,0,none⟩,um:=m,ue:=⟨none,0,0⟩},rfl,H5.out.1⟩,LU.trans (LU.trans (hU3.out.no hU) H4.out.2) H5.out.2⟩
theorem lgRestore {sn md:Nat} {s:Snap} (h:Jf N w J g) (hs:Kf N w sn md s) (hsm:s.small) (hi0:0≤s.index) (hi:s.index<4611686018427387904):
  Calls Tryz.prog 171 #[.pointer (some ⟨J.l,0,none⟩),.pointer (some ⟨sn,0,none⟩)] w fun e w'=>e=.returned (.tuple #[])∧(∃J',J'.as J∧Jf N w' J' (g.restore s))∧Upd (LU N w) w w':=by
 have c1:=h.c1;have c6:=h.c6;have y6:=h.fz 6;obtain ⟨ds,cf,ix,tm,q1,q2,_,_,q3,_⟩:=id hs;have q3':OptInt w 23 .u64 (some ⟨ix,0,none⟩) s.index:=.inr ⟨_,rfl,q3⟩;have H1:=qq (h.put 6 (.int .u64 s.index) {g with com:=s.index} rfl rfl rfl rfl rfl);have hS1:Kf N (w.setCell ⟨J.l,6,none⟩ (.int .u64 s.index)) sn md s:=by
  obtain ⟨hu,hf,_⟩:=h.upd_l (v:=.int .u64 s.index) (j:=6);exact hs.upd hu hf (fun hk=>q1.ne_ h.blk (by decide) hk) (fun hk=>q2.ne_ h.blk (by decide) hk)
 have HS:=qq (uRestore H1.out.1 hS1 hsm hi0 hi);have z1:=H1.out.1.c1;clear hs hS1 h;go_enter Tryz.func171,Tryz.ntmps171;go_wp2_with fail
 refine (snap_meta q1).mono ?_;rintro r w' ⟨rfl,rfl⟩;go_wp2_with fail
 refine (meta_index q2 q3').mono ?_;rintro r w' ⟨rfl,rfl⟩;go_wp2_with fail
 refine HS.out.mono ?_;rintro r w1 ⟨rfl,hR,hU⟩;go_wp2;go_end0;exact ⟨rfl,hR,LU.trans H1.out.2 hU⟩
end
end Go.Proofs.YtmagnkjodjmojaaGreat
