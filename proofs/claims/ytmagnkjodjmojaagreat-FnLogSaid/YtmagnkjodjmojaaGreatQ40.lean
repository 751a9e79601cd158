/- A part of the proof of FnLog: laws and walks, with their conditions written at each. -/
import Derived.Deep.CutBlock
import Derived.Deep.DeepCutAuto
import Derived.Test.YtmagnkjodjmojaaGreatQ35
set_option maxRecDepth 20000
set_option maxHeartbeats 4000000
set_option linter.all false
namespace Go.Proofs.YtmagnkjodjmojaaGreat
open Go.RowKit
section
variable {N:Nat} {w w':World} {S:Nat→Prop} {A A':StK} {s:StL} {B B':TlK} {u:TlL} {l:Nat} {g g':LgL}
theorem beq_no {a b:Int} (h:¬a=b):(a==b)=false:=beq_eq_false_iff_ne.2 h
theorem beq_yes {a b:Int} (h:a=b):(a==b)=true:=beq_iff_eq.2 h
theorem bne_yes {a b:Int} (h:¬a=b):(a !=b)=true:=bne_iff_ne.2 h
theorem bne_no {a b:Int} (h:a=b):(a !=b)=false:=bne_eq_false_iff_eq.2 h
def TlL.rowsP (u:TlL):Prop:=rowB u.es=true∧u.off≠0∧u.off<farI∧(u.es.length=0∨idx0 u.es=u.off)∧u.off≤u.till∧u.till≤u.end_
instance (u:TlL):Decidable u.rowsP:=by unfold TlL.rowsP;infer_instance
theorem TlL.wholeB_no {u:TlL} (h:¬u.rowsP):u.wholeB=false:=by
 rcases hw:u.wholeB with _|_
 ·rfl
 ·refine absurd ?_ h;unfold TlL.wholeB at hw;simp only [Bool.and_eq_true,decide_eq_true_eq] at hw;exact ⟨hw.1.1.1.1.1.1,hw.1.1.1.1.1.2,hw.1.1.1.1.2,hw.1.1.1.2,hw.1.1.2,hw.1.2⟩
theorem TlL.wholeB_yes {u:TlL} (h:u.rowsP):u.wholeB=if u.has=true then decide (0<u.snap.index∧u.snap.index+1=u.off∧u.snap.term<farI) else !u.going:=by
 obtain ⟨h1,h2,h3,h4,h5,h6⟩:=h;unfold TlL.wholeB;rw [h1,decide_eq_true h2,decide_eq_true h3,decide_eq_true h4,decide_eq_true h5,decide_eq_true h6];rfl
set_option maxHeartbeats 16000000 in
theorem spTlWhole (h:SpTl N w B u) (hs:u.Sm) (hu:AllU u.es):
  Calls Tryz.prog 33 #[.pointer (some ⟨B.b,0,none⟩)] w fun e w'=>e=.returned (.bool u.wholeB)∧∃n,w.drewN n=w':=by
 have c1:w.cell? ⟨B.b,1,none⟩=some (.int .u64 u.snap.index):=by rw [←h.cf.index];exact h.c 1
 have c2:w.cell? ⟨B.b,2,none⟩=some (.int .u64 u.snap.term):=by rw [←h.cf.term];exact h.c 2
 have c8:w.cell? ⟨B.b,8,none⟩=some (.bool u.has):=h.c 8;have c9:w.cell? ⟨B.b,9,none⟩=some (.slice B.E.A B.E.n B.E.c):=h.c 9;have c10:w.cell? ⟨B.b,10,none⟩=some (.int .u64 u.off):=h.c 10;have c11:w.cell? ⟨B.b,11,none⟩=some (.bool u.going):=h.c 11;have c12:w.cell? ⟨B.b,12,none⟩=some (.int .u64 u.till):=h.c 12;have o0:=hs.o0;have o1:=hs.o1;have hi0:=hs.i0;have hi1:=hs.i1;have hl:=h.E.len;have hlen:=hs.len;have hn:B.E.n≤100000:=by omega
 have HR:=qq fun (W:World) (hw:Upd No w W) (n:Nat)=>spRow ((h.no hw).E.fr ((Upd.refl No W).drewN n).fr0) hu hn;have HA:=qq fun (hn:0<B.E.n)=>h.E.at4 hn;have jw:IntKind.u64.wrap (u.off+(B.E.n:Int))=u.off+(B.E.n:Int):=by simp [IntKind.wrap_u64];omega
 have jx:IntKind.u64.wrap (u.snap.index+1)=u.snap.index+1:=by simp [IntKind.wrap_u64];omega
 have HE:=qq (show u.end_=u.off+(B.E.n:Int) by unfold TlL.end_;rw [hl]);have HL:=qq hl;have HI:=qq (show idx0 u.es=(u.es.getD 0 default).index from rfl);clear h hs hu hl hlen o1 hi1;go_enter Tryz.func33,Tryz.ntmps33;go_wp2_with fail
 go_quiet (fail)
 go_upto_region 2 with fail
 obtain ⟨w1,hw1⟩:∃W,W=w.drewN nq:=⟨_,rfl⟩;have U1:=qq (show Upd No w w1 by rw [hw1];exact (Upd.refl No w).drewN nq);rw [←hw1];have HW1:=qq hw1;clear hw1;have c1:=U1.out.cell c1 (fun h=>h);have c2:=U1.out.cell c2 (fun h=>h);have c8:=U1.out.cell c8 (fun h=>h);have c9:=U1.out.cell c9 (fun h=>h);have c10:=U1.out.cell c10 (fun h=>h);have c11:=U1.out.cell c11 (fun h=>h);have c12:=U1.out.cell c12 (fun h=>h);have HQ:=qq fun (n:Nat)=>HR.out w1 U1.out n;go_cut [86] (fun s W=>∃bb:Bool,s=.bool bb∧bb=(!decide u.rowsP)∧∃m,w1.drewN m=W)
 case first=>
  refine wp_region_quiet_lit (by kernel_rfl) (by kernel_rfl) ?_;dsimp only [List.append];rcases hr:rowB u.es with _|_
  ·rw [hr] at HQ;have HP:=qq (show decide u.rowsP=false from decide_eq_false (fun h=>by have:=h.1;rw [hr] at this;cases this));clear hr;repeat (go_big_quiet_step ((go_at_call 54;exact Ji (HQ.out _))))
   refine wpQuiet_nil ?_;intro _ hw';obtain ⟨nq,hw''⟩:=hw';subst hw'';go_wp2_with fail
   go_meet
   exact ⟨_,rfl,by rw [HP.out];rfl,_,rfl⟩
  ·rw [hr] at HQ;have HRW:=qq hr;clear hr;repeat (go_big_quiet_step ((go_at_call 54;exact Ji (HQ.out _))))
   by_cases e2:u.off=0
   ·have d2:=beq_yes e2;rw [d2];have HP:=qq (show decide u.rowsP=false from decide_eq_false (fun h=>h.2.1 e2));clear e2;repeat (go_big_quiet_step ((go_at_call 54;exact Ji (HQ.out _))))
    refine wpQuiet_nil ?_;intro _ hw';obtain ⟨nq,hw''⟩:=hw';subst hw'';go_wp2_with fail
    go_meet
    exact ⟨_,rfl,by rw [HP.out];rfl,_,rfl⟩
   ·have d2:=beq_no e2;rw [d2];repeat (go_big_quiet_step ((go_at_call 54;exact Ji (HQ.out _))))
    by_cases e3:u.off<4611686018427387904
    ·have d3:decide (4611686018427387904≤u.off)=false:=decide_eq_false (by omega);rw [d3];repeat (go_big_quiet_step ((go_at_call 54;exact Ji (HQ.out _))))
     by_cases en:0<B.E.n
     ·obtain ⟨b,o,hA,hbl,k0,k1,_⟩:=HA.out en;have k1:=U1.out.cell k1 (fun h=>h);have dn:decide ((0:Int)<(B.E.n:Int))=true:=decide_eq_true (by omega);have dn2:decide (0<B.E.n)=true:=decide_eq_true en;try rw [dn]
      try rw [dn2]
      rw [Nat.zero_mul,Nat.add_zero] at k1;rw [hA] at c9 HQ;obtain ⟨i0,hi⟩:∃i,i=(u.es.getD 0 default).index:=⟨_,rfl⟩;rw [←hi] at k1;have HI0:=qq (hi.trans HI.out.symm);clear hi k0 hbl;by_cases ei:i0=u.off
      ·have di:=bne_no ei;repeat (go_big_quiet_step ((go_at_call 54;exact Ji (HQ.out _))))
       by_cases e4:u.off≤u.till
       ·have d4:decide (u.till<u.off)=false:=decide_eq_false (by omega);rw [d4];repeat (go_big_quiet_step ((go_at_call 54;exact Ji (HQ.out _))))
        by_cases e5:u.till≤u.off+(B.E.n:Int)
        ·have d5:decide (u.off+(B.E.n:Int)<u.till)=false:=decide_eq_false (by omega);rw [d5];have HP:=qq (show decide u.rowsP=true from decide_eq_true ⟨HRW.out,e2,by unfold farI;omega,.inr (HI0.out ▸ei),e4,by rw [HE.out];exact e5⟩);clear e4 e5 e2 e3 en hA ei;repeat (go_big_quiet_step ((go_at_call 54;exact Ji (HQ.out _))))
         refine wpQuiet_nil ?_;intro _ hw';obtain ⟨nq,hw''⟩:=hw';subst hw'';go_wp2_with fail
         go_meet
         exact ⟨_,rfl,by rw [HP.out];rfl,_,rfl⟩
        ·have d5:decide (u.off+(B.E.n:Int)<u.till)=true:=decide_eq_true (by omega);rw [d5];have HP:=qq (show decide u.rowsP=false from decide_eq_false (fun h=>e5 (by have:=h.2.2.2.2.2;rw [HE.out] at this;exact this)));clear e4 e5 e2 e3 en hA ei;repeat (go_big_quiet_step ((go_at_call 54;exact Ji (HQ.out _))))
         refine wpQuiet_nil ?_;intro _ hw';obtain ⟨nq,hw''⟩:=hw';subst hw'';go_wp2_with fail
         go_meet
         exact ⟨_,rfl,by rw [HP.out];rfl,_,rfl⟩
       ·have d4:decide (u.till<u.off)=true:=decide_eq_true (by omega);rw [d4];have HP:=qq (show decide u.rowsP=false from decide_eq_false (fun h=>e4 h.2.2.2.2.1));clear e4 e2 e3 en hA ei;repeat (go_big_quiet_step ((go_at_call 54;exact Ji (HQ.out _))))
        refine wpQuiet_nil ?_;intro _ hw';obtain ⟨nq,hw''⟩:=hw';subst hw'';go_wp2_with fail
        go_meet
        exact ⟨_,rfl,by rw [HP.out];rfl,_,rfl⟩
      ·have di:=bne_yes ei;have HP:=qq (show decide u.rowsP=false from decide_eq_false (fun h=>by have h4:=h.2.2.2.1;rw [HL.out,←HI0.out] at h4;omega));clear e2 e3 hA ei;repeat (go_big_quiet_step ((go_at_call 54;exact Ji (HQ.out _))))
       refine wpQuiet_nil ?_;intro _ hw';obtain ⟨nq,hw''⟩:=hw';subst hw'';go_wp2_with fail
       go_meet
       exact ⟨_,rfl,by rw [HP.out];rfl,_,rfl⟩
     ·have dn:decide ((0:Int)<(B.E.n:Int))=false:=decide_eq_false (by omega);have dn2:decide (0<B.E.n)=false:=decide_eq_false en;try rw [dn]
      try rw [dn2]
      repeat (go_big_quiet_step ((go_at_call 54;exact Ji (HQ.out _))))
      by_cases e4:u.off≤u.till
      ·have d4:decide (u.till<u.off)=false:=decide_eq_false (by omega);rw [d4];repeat (go_big_quiet_step ((go_at_call 54;exact Ji (HQ.out _))))
       by_cases e5:u.till≤u.off+(B.E.n:Int)
       ·have d5:decide (u.off+(B.E.n:Int)<u.till)=false:=decide_eq_false (by omega);rw [d5];have HP:=qq (show decide u.rowsP=true from decide_eq_true ⟨HRW.out,e2,by unfold farI;omega,.inl (by rw [HL.out];omega),e4,by rw [HE.out];exact e5⟩);clear e4 e5 e2 e3 en;repeat (go_big_quiet_step ((go_at_call 54;exact Ji (HQ.out _))))
        refine wpQuiet_nil ?_;intro _ hw';obtain ⟨nq,hw''⟩:=hw';subst hw'';go_wp2_with fail
        go_meet
        exact ⟨_,rfl,by rw [HP.out];rfl,_,rfl⟩
       ·have d5:decide (u.off+(B.E.n:Int)<u.till)=true:=decide_eq_true (by omega);rw [d5];have HP:=qq (show decide u.rowsP=false from decide_eq_false (fun h=>e5 (by have:=h.2.2.2.2.2;rw [HE.out] at this;exact this)));clear e4 e5 e2 e3 en;repeat (go_big_quiet_step ((go_at_call 54;exact Ji (HQ.out _))))
        refine wpQuiet_nil ?_;intro _ hw';obtain ⟨nq,hw''⟩:=hw';subst hw'';go_wp2_with fail
        go_meet
        exact ⟨_,rfl,by rw [HP.out];rfl,_,rfl⟩
      ·have d4:decide (u.till<u.off)=true:=decide_eq_true (by omega);rw [d4];have HP:=qq (show decide u.rowsP=false from decide_eq_false (fun h=>e4 h.2.2.2.2.1));clear e4 e2 e3 en;repeat (go_big_quiet_step ((go_at_call 54;exact Ji (HQ.out _))))
       refine wpQuiet_nil ?_;intro _ hw';obtain ⟨nq,hw''⟩:=hw';subst hw'';go_wp2_with fail
       go_meet
       exact ⟨_,rfl,by rw [HP.out];rfl,_,rfl⟩
    ·have d3:decide (4611686018427387904≤u.off)=true:=decide_eq_true (by omega);rw [d3];have HP:=qq (show decide u.rowsP=false from decide_eq_false (fun h=>by have:=h.2.2.1;unfold farI at this;exact e3 this));clear e2 e3;repeat (go_big_quiet_step ((go_at_call 54;exact Ji (HQ.out _))))
     refine wpQuiet_nil ?_;intro _ hw';obtain ⟨nq,hw''⟩:=hw';subst hw'';go_wp2_with fail
     go_meet
     exact ⟨_,rfl,by rw [HP.out];rfl,_,rfl⟩
 case rest=>
  obtain ⟨bb,rfl,hb,m,hu2⟩:=hcut;have U2:=qq (show Upd No w1 wc from hu2 ▸(Upd.refl No w1).drewN m);have HF0:=qq (show ∃n,w.drewN n=wc from ⟨nq+m,by rw [←hu2,HW1.out,World.drewN_drewN]⟩);have HF:=qq fun (k:Nat)=>(show ∃n,w.drewN n=wc.drewN k from ⟨nq+(m+k),by rw [←hu2,HW1.out,World.drewN_drewN,World.drewN_drewN]⟩);clear hu2;have c1:=U2.out.cell c1 (fun h=>h);have c2:=U2.out.cell c2 (fun h=>h);have c8:=U2.out.cell c8 (fun h=>h);have c10:=U2.out.cell c10 (fun h=>h);have c11:=U2.out.cell c11 (fun h=>h);have HP:=qq hb;clear hb;rcases bb with _|_
  ·have HW:=qq (TlL.wholeB_yes (u:=u) (by
    rcases hd:decide u.rowsP with _|_
    ·have:=HP.out;rw [hd] at this;cases this
    ·exact of_decide_eq_true hd))
   rcases hh:u.has with _|_
   ·rw [hh] at c8;have HW:=qq (HW.out.trans (by rw [hh];rfl:_= !u.going));clear hh;go_wp2;go_ret;exact ⟨by rw [HW.out];rfl,HF0.out⟩
   ·rw [hh] at c8;have HW:=qq (HW.out.trans (by rw [hh];rfl:_=decide (0<u.snap.index∧u.snap.index+1=u.off∧u.snap.term<farI)));clear hh;by_cases e1:0<u.snap.index
    ·have d1:decide (0<u.snap.index)=true:=decide_eq_true e1;by_cases e2:u.snap.index+1=u.off
     ·have d2:=beq_yes e2;have HW:=qq (show u.wholeB=decide (u.snap.term<4611686018427387904) from HW.out.trans (decide_eq_decide.2 ⟨fun h=>h.2.2,fun h=>⟨e1,e2,h⟩⟩));clear e1 e2;go_wp2_with fail
      go_quiet (fail)
      go_wp2;go_ret;exact ⟨by rw [HW.out];rfl,HF.out _⟩
     ·have d2:=beq_no e2;have HW:=qq (HW.out.trans (decide_eq_false fun h=>e2 h.2.1));clear e1 e2;go_wp2_with fail
      go_quiet (fail)
      go_wp2;go_ret;exact ⟨by rw [HW.out];rfl,HF.out _⟩
    ·have d1:decide (0<u.snap.index)=false:=decide_eq_false e1;have HW:=qq (HW.out.trans (decide_eq_false fun h=>e1 h.1));clear e1;go_wp2_with fail
     go_quiet (fail)
     go_wp2;go_ret;exact ⟨by rw [HW.out];rfl,HF.out _⟩
  ·have HW:=qq (TlL.wholeB_no (u:=u) (fun h=>by have:=HP.out;rw [decide_eq_true h] at this;cases this));go_wp2;go_ret;exact ⟨by rw [HW.out];rfl,HF0.out⟩
def LgL.gapP (g:LgL):Prop:=g.u.wholeB=true∧(g.u.has=true∨(g.u.off≤g.s.last+1∧g.s.first≤g.u.off∧(g.u.es.length=0→g.u.off=g.s.last+1)))
instance (g:LgL):Decidable g.gapP:=by unfold LgL.gapP;infer_instance
theorem LgL.wholeB_no {g:LgL} (h:¬g.gapP):g.wholeB=false:=by
 rcases hw:g.wholeB with _|_
 ·rfl
 ·refine absurd ?_ h;unfold LgL.wholeB at hw;simp only [Bool.and_eq_true,decide_eq_true_eq,Bool.or_eq_true] at hw;exact ⟨hw.1.1,hw.1.2⟩
theorem LgL.wholeB_yes {g:LgL} (h:g.gapP):g.wholeB=decide (g.com≤g.last∧g.first≤g.com+1∧g.apd≤g.apg∧g.apg≤g.com):=by
 obtain ⟨h1,h2⟩:=h;have h3:(g.u.has||decide (g.u.off≤g.s.last+1∧g.s.first≤g.u.off∧(g.u.es.length=0→g.u.off=g.s.last+1)))=true:=by
  rcases h2 with h2|h2
  ·rw [h2];rfl
  ·rw [decide_eq_true h2,Bool.or_true]
 unfold LgL.wholeB;rw [h1,h3];rfl
set_option maxHeartbeats 16000000 in
theorem spWhole (h:Ka N w l A B g) (hp:g.Pre) (hc0:0≤g.com) (hc1:g.com<9223372036854775808):
  Calls Tryz.prog 10 #[.pointer (some ⟨l,0,none⟩)] w fun e w'=>e=.returned (.bool g.wholeB)∧Upd No w w':=by
 have hs:=hp.isSm;have hst:=hp.s.last;have hai0:=hp.s.i0;have hlast:0≤g.s.last:=by unfold StL.last;omega
 have hfb:=hs.first_bd;have HU:=qq (show AllU g.u.es from fun j hj=>by have h:=hp.ok j hj;exact ⟨h.t0,by have:=h.t1;omega,h.i0,by have:=h.i1;omega,h.k0,h.k2,h.d⟩);have HSL:=qq (spStLast h.st hs.s).toU;have HT0:=qq fun (W:World) (hu:Upd No w W) (n:Nat)=>spTlWhole ((h.no hu).tl.drewN n) hs.u HU.out;have HSF0:=qq fun (W:World) (hu:Upd No w W) (n:Nat)=>spStFirst ((h.no hu).st.drewN n) hs.s;have HLL0:=qq fun (W:World) (hu:Upd No w W) (n:Nat)=>spLast ((h.no hu).drewN n) hs.s hs.u;have HLF0:=qq fun (W:World) (hu:Upd No w W) (n:Nat)=>spFirst ((h.no hu).drewN n) hs.s hs.u;have k0:w.cell? ⟨l,0,none⟩=some (pp A.b):=h.c 0;have k1:w.cell? ⟨l,1,none⟩=some (pp B.b):=h.c 1;have k2:w.cell? ⟨l,2,none⟩=some (.int .u64 g.com):=h.c 2;have k3:w.cell? ⟨l,3,none⟩=some (.int .u64 g.apg):=h.c 3;have k4:w.cell? ⟨l,4,none⟩=some (.int .u64 g.apd):=h.c 4;have c8:w.cell? ⟨B.b,8,none⟩=some (.bool g.u.has):=h.tl.c 8;have c9:w.cell? ⟨B.b,9,none⟩=some B.E.v:=h.tl.c 9;have c10:w.cell? ⟨B.b,10,none⟩=some (.int .u64 g.u.off):=h.tl.c 10;have HL:=qq h.tl.E.len;have jw:IntKind.u64.wrap (g.s.last+1)=g.s.last+1:=by simp [IntKind.wrap_u64];omega
 have jx:IntKind.u64.wrap (g.com+1)=g.com+1:=by simp [IntKind.wrap_u64];omega
 clear h hp hs hst hai0 hlast hfb hc0 hc1;go_enter Tryz.func10,Tryz.ntmps10;go_wp2_with fail
 refine HSL.out.mono ?_;rintro r w1 ⟨rfl,u1⟩;have U1:=qq u1;clear u1;go_upto_region 2 with fail
 have k0:=U1.out.cell k0 (fun h=>h);have k1:=U1.out.cell k1 (fun h=>h);have k2:=U1.out.cell k2 (fun h=>h);have k3:=U1.out.cell k3 (fun h=>h);have k4:=U1.out.cell k4 (fun h=>h);have c8:=U1.out.cell c8 (fun h=>h);have c9:=U1.out.cell c9 (fun h=>h);have c10:=U1.out.cell c10 (fun h=>h);have HT2:=qq fun (n:Nat)=>HT0.out w1 U1.out n;have HSF:=qq fun (n:Nat)=>HSF0.out w1 U1.out n;go_cut [78] (fun s W=>∃bb:Bool,s=.bool bb∧bb=(!decide g.gapP)∧Upd No w1 W)
 case first=>
  refine wp_region_quiet_lit (by kernel_rfl) (by kernel_rfl) ?_;dsimp only [List.append];rcases hw:g.u.wholeB with _|_
  ·rw [hw] at HT2;have HP:=qq (show decide g.gapP=false from decide_eq_false (fun h=>by have:=h.1;rw [hw] at this;cases this));clear hw;repeat (go_big_quiet_step (first|(go_at_call 33;exact Ji (HT2.out _))|(go_at_call 34;exact Jj (HSF.out _))|(go_at_call 22;exact Ji (HLL.out _))|(go_at_call 35;exact Jj (HLF.out _))))
   refine wpQuiet_nil ?_;intro _ hw';obtain ⟨nq,hw''⟩:=hw';subst hw'';go_wp2_with fail
   go_meet
   exact ⟨_,rfl,by rw [HP.out];rfl,(Upd.refl No w1).drewN _⟩
  ·rw [hw] at HT2;rcases hh:g.u.has with _|_
   ·rw [hh] at c8;repeat (go_big_quiet_step (first|(go_at_call 33;exact Ji (HT2.out _))|(go_at_call 34;exact Jj (HSF.out _))|(go_at_call 22;exact Ji (HLL.out _))|(go_at_call 35;exact Jj (HLF.out _))))
    by_cases e1:g.u.off≤g.s.last+1
    ·have d1:decide (g.s.last+1<g.u.off)=false:=decide_eq_false (by omega);rw [d1];repeat (go_big_quiet_step (first|(go_at_call 33;exact Ji (HT2.out _))|(go_at_call 34;exact Jj (HSF.out _))|(go_at_call 22;exact Ji (HLL.out _))|(go_at_call 35;exact Jj (HLF.out _))))
     by_cases e2:g.s.first≤g.u.off
     ·have d2:decide (g.u.off<g.s.first)=false:=decide_eq_false (by omega);rw [d2];repeat (go_big_quiet_step (first|(go_at_call 33;exact Ji (HT2.out _))|(go_at_call 34;exact Jj (HSF.out _))|(go_at_call 22;exact Ji (HLL.out _))|(go_at_call 35;exact Jj (HLF.out _))))
      by_cases e3:(B.E.n:Int)=0
      ·have d3:((B.E.n:Int)==0)=true:=beq_iff_eq.2 e3;try rw [d3]
       by_cases e4:g.u.off=g.s.last+1
       ·have d4:=bne_no e4;have HP:=qq (show decide g.gapP=true from decide_eq_true ⟨hw,.inr ⟨e1,e2,fun _=>e4⟩⟩);clear hw hh e1 e2 e3;repeat (go_big_quiet_step (first|(go_at_call 33;exact Ji (HT2.out _))|(go_at_call 34;exact Jj (HSF.out _))|(go_at_call 22;exact Ji (HLL.out _))|(go_at_call 35;exact Jj (HLF.out _))))
        refine wpQuiet_nil ?_;intro _ hw';obtain ⟨nq,hw''⟩:=hw';subst hw'';go_wp2_with fail
        go_meet
        exact ⟨_,rfl,by rw [HP.out];rfl,(Upd.refl No w1).drewN _⟩
       ·have d4:=bne_yes e4;have HP:=qq (show decide g.gapP=false from decide_eq_false (fun h=>h.2.elim (fun h2=>by rw [hh] at h2;cases h2) (fun h2=>e4 (h2.2.2 (by rw [HL.out];omega)))));clear hw hh e1 e2 e3;repeat (go_big_quiet_step (first|(go_at_call 33;exact Ji (HT2.out _))|(go_at_call 34;exact Jj (HSF.out _))|(go_at_call 22;exact Ji (HLL.out _))|(go_at_call 35;exact Jj (HLF.out _))))
        refine wpQuiet_nil ?_;intro _ hw';obtain ⟨nq,hw''⟩:=hw';subst hw'';go_wp2_with fail
        go_meet
        exact ⟨_,rfl,by rw [HP.out];rfl,(Upd.refl No w1).drewN _⟩
      ·have d3:((B.E.n:Int)==0)=false:=beq_eq_false_iff_ne.2 e3;try rw [d3]
       have HP:=qq (show decide g.gapP=true from decide_eq_true ⟨hw,.inr ⟨e1,e2,fun h=>absurd (show (B.E.n:Int)=0 by rw [←HL.out,h];rfl) e3⟩⟩);clear hw hh e1 e2 e3;repeat (go_big_quiet_step (first|(go_at_call 33;exact Ji (HT2.out _))|(go_at_call 34;exact Jj (HSF.out _))|(go_at_call 22;exact Ji (HLL.out _))|(go_at_call 35;exact Jj (HLF.out _))))
       refine wpQuiet_nil ?_;intro _ hw';obtain ⟨nq,hw''⟩:=hw';subst hw'';go_wp2_with fail
       go_meet
       exact ⟨_,rfl,by rw [HP.out];rfl,(Upd.refl No w1).drewN _⟩
     ·have d2:decide (g.u.off<g.s.first)=true:=decide_eq_true (by omega);rw [d2];have HP:=qq (show decide g.gapP=false from decide_eq_false (fun h=>h.2.elim (fun h2=>by rw [hh] at h2;cases h2) (fun h2=>e2 h2.2.1)));clear hw hh e1 e2;repeat (go_big_quiet_step (first|(go_at_call 33;exact Ji (HT2.out _))|(go_at_call 34;exact Jj (HSF.out _))|(go_at_call 22;exact Ji (HLL.out _))|(go_at_call 35;exact Jj (HLF.out _))))
      refine wpQuiet_nil ?_;intro _ hw';obtain ⟨nq,hw''⟩:=hw';subst hw'';go_wp2_with fail
      go_meet
      exact ⟨_,rfl,by rw [HP.out];rfl,(Upd.refl No w1).drewN _⟩
    ·have d1:decide (g.s.last+1<g.u.off)=true:=decide_eq_true (by omega);rw [d1];have HP:=qq (show decide g.gapP=false from decide_eq_false (fun h=>h.2.elim (fun h2=>by rw [hh] at h2;cases h2) (fun h2=>e1 h2.1)));clear hw hh e1;repeat (go_big_quiet_step (first|(go_at_call 33;exact Ji (HT2.out _))|(go_at_call 34;exact Jj (HSF.out _))|(go_at_call 22;exact Ji (HLL.out _))|(go_at_call 35;exact Jj (HLF.out _))))
     refine wpQuiet_nil ?_;intro _ hw';obtain ⟨nq,hw''⟩:=hw';subst hw'';go_wp2_with fail
     go_meet
     exact ⟨_,rfl,by rw [HP.out];rfl,(Upd.refl No w1).drewN _⟩
   ·rw [hh] at c8;have HP:=qq (show decide g.gapP=true from decide_eq_true ⟨hw,.inl hh⟩);clear hw hh;repeat (go_big_quiet_step (first|(go_at_call 33;exact Ji (HT2.out _))|(go_at_call 34;exact Jj (HSF.out _))|(go_at_call 22;exact Ji (HLL.out _))|(go_at_call 35;exact Jj (HLF.out _))))
    refine wpQuiet_nil ?_;intro _ hw';obtain ⟨nq,hw''⟩:=hw';subst hw'';go_wp2_with fail
    go_meet
    exact ⟨_,rfl,by rw [HP.out];rfl,(Upd.refl No w1).drewN _⟩
 case rest=>
  obtain ⟨bb,rfl,hb,hu2⟩:=hcut;have U2:=qq hu2;have HP:=qq hb;have HUC:=qq (U1.out.no hu2);clear hu2 hb;rcases bb with _|_
  ·have HW:=qq (LgL.wholeB_yes (g:=g) (by
    rcases hd:decide g.gapP with _|_
    ·have:=HP.out;rw [hd] at this;cases this
    ·exact of_decide_eq_true hd))
   have k2:=U2.out.cell k2 (fun h=>h);have k3:=U2.out.cell k3 (fun h=>h);have k4:=U2.out.cell k4 (fun h=>h);have HLL:=qq fun (n:Nat)=>HLL0.out wc HUC.out n;have HLF:=qq fun (n:Nat)=>HLF0.out wc HUC.out n;clear c8 c9 c10 k0 k1;go_wp2_with fail
   refine wp_region_quiet_lit (by kernel_rfl) (by kernel_rfl) ?_;try dsimp only [List.append]
   repeat (go_big_quiet_step (first|(go_at_call 33;exact Ji (HT2.out _))|(go_at_call 34;exact Jj (HSF.out _))|(go_at_call 22;exact Ji (HLL.out _))|(go_at_call 35;exact Jj (HLF.out _))))
   by_cases e1:g.com≤g.last
   ·have d1:decide (g.com≤g.last)=true:=decide_eq_true e1;rw [d1];repeat (go_big_quiet_step (first|(go_at_call 33;exact Ji (HT2.out _))|(go_at_call 34;exact Jj (HSF.out _))|(go_at_call 22;exact Ji (HLL.out _))|(go_at_call 35;exact Jj (HLF.out _))))
    by_cases e2:g.first≤g.com+1
    ·have d2:decide (g.first≤g.com+1)=true:=decide_eq_true e2;rw [d2];repeat (go_big_quiet_step (first|(go_at_call 33;exact Ji (HT2.out _))|(go_at_call 34;exact Jj (HSF.out _))|(go_at_call 22;exact Ji (HLL.out _))|(go_at_call 35;exact Jj (HLF.out _))))
     by_cases e3:g.apd≤g.apg
     ·have d3:decide (g.apd≤g.apg)=true:=decide_eq_true e3;rw [d3];have HW:=qq (show g.wholeB=decide (g.apg≤g.com) from HW.out.trans (decide_eq_decide.2 ⟨fun h=>h.2.2.2,fun h=>⟨e1,e2,e3,h⟩⟩));clear e1 e2 e3;repeat (go_big_quiet_step (first|(go_at_call 33;exact Ji (HT2.out _))|(go_at_call 34;exact Jj (HSF.out _))|(go_at_call 22;exact Ji (HLL.out _))|(go_at_call 35;exact Jj (HLF.out _))))
      refine wpQuiet_nil ?_;intro _ hw';obtain ⟨nq,hw''⟩:=hw';subst hw'';go_wp2;go_ret;exact ⟨by rw [HW.out];rfl,(HUC.out).drewN _⟩
     ·have d3:decide (g.apd≤g.apg)=false:=decide_eq_false e3;rw [d3];have HW:=qq (HW.out.trans (decide_eq_false fun h=>e3 h.2.2.1));clear e1 e2 e3;repeat (go_big_quiet_step (first|(go_at_call 33;exact Ji (HT2.out _))|(go_at_call 34;exact Jj (HSF.out _))|(go_at_call 22;exact Ji (HLL.out _))|(go_at_call 35;exact Jj (HLF.out _))))
      refine wpQuiet_nil ?_;intro _ hw';obtain ⟨nq,hw''⟩:=hw';subst hw'';go_wp2;go_ret;exact ⟨by rw [HW.out];rfl,(HUC.out).drewN _⟩
    ·have d2:decide (g.first≤g.com+1)=false:=decide_eq_false e2;rw [d2];have HW:=qq (HW.out.trans (decide_eq_false fun h=>e2 h.2.1));clear e1 e2;repeat (go_big_quiet_step (first|(go_at_call 33;exact Ji (HT2.out _))|(go_at_call 34;exact Jj (HSF.out _))|(go_at_call 22;exact Ji (HLL.out _))|(go_at_call 35;exact Jj (HLF.out _))))
     refine wpQuiet_nil ?_;intro _ hw';obtain ⟨nq,hw''⟩:=hw';subst hw'';go_wp2;go_ret;exact ⟨by rw [HW.out];rfl,(HUC.out).drewN _⟩
   ·have d1:decide (g.com≤g.last)=false:=decide_eq_false e1;rw [d1];have HW:=qq (HW.out.trans (decide_eq_false fun h=>e1 h.1));clear e1;repeat (go_big_quiet_step (first|(go_at_call 33;exact Ji (HT2.out _))|(go_at_call 34;exact Jj (HSF.out _))|(go_at_call 22;exact Ji (HLL.out _))|(go_at_call 35;exact Jj (HLF.out _))))
    refine wpQuiet_nil ?_;intro _ hw';obtain ⟨nq,hw''⟩:=hw';subst hw'';go_wp2;go_ret;exact ⟨by rw [HW.out];rfl,(HUC.out).drewN _⟩
  ·have HW:=qq (LgL.wholeB_no (g:=g) (fun h=>by have:=HP.out;rw [decide_eq_true h] at this;cases this));go_wp2;go_ret;exact ⟨by rw [HW.out];rfl,HUC.out⟩
theorem spNewLog (h:Kb N w A s) (hs:s.Sm) {size:Int}:
  Calls Tryz.prog 20 #[.pointer (some ⟨A.b,0,none⟩),.int .u64 size] w fun e w'=>∃l B,e=.returned (.pointer (some ⟨l,0,none⟩))∧Ka N w' l A B (LgL.fresh s size)∧w.heap.size≤l∧w.heap.size≤B.b∧Upd No w w':=by
 have HSL:=qq fun (W:World) (hu:Upd No w W)=>(spStLast (h.no hu) hs).toU;have HSF:=qq fun (W:World) (hu:Upd No w W)=>(spStFirst (h.no hu) hs);have hi0:=hs.i0;have hi1:=hs.i1;have hlen:=hs.len;have HS:=qq fun (W:World) (hu:Upd No w W)=>h.no hu;have HN:=qq (Nat.le_trans h.N (Nat.le_of_lt h.blk.lt));have jw:IntKind.u64.wrap (s.last+1)=s.last+1:=by unfold StL.last;simp [IntKind.wrap_u64];omega
 have jx:IntKind.u64.wrap (s.first - 1)=s.atI:=by unfold StL.first;simp [IntKind.wrap_u64];omega
 clear h hs hlen hi0 hi1;go_enter Tryz.func20,Tryz.ntmps20;go_wp2_with fail
 refine (HSL.out _ (Upd.refl No w)).mono ?_;rintro r w1 ⟨rfl,u1⟩;have U1:=qq u1;clear u1;go_wp2_with fail
 refine (HSL.out _ U1.out).mono ?_;rintro r w2 ⟨rfl,u2⟩;have U2:=qq (U1.out.no u2);clear u2;go_wp2_with fail
 obtain ⟨w3,hw3⟩:∃W,W=w2.alloc (.cells #[.string ⟨#[]⟩,.int .u64 0,.int .u64 0,.slice none 0 0,.slice none 0 0,.slice none 0 0,.slice none 0 0,.bool false,.bool false,.slice none 0 0,.int .u64 (s.last+1),.bool false,.int .u64 (s.last+1)] 85):=⟨_,rfl⟩;have U3:=qq (show Upd No w w3 by rw [hw3];exact U2.out.alloc _);have HB3:=qq (show Blk w3 w2.heap.size 85 (tlCells ⟨w2.heap.size,SnV.nil,SlV.nil⟩ (LgL.fresh s size).u) by rw [hw3];exact Blk.new _ _ _);have HN3:=qq (Nat.le_trans HN.out U2.out.size);have HN4:=qq (Nat.le_trans HN.out U3.out.size);rw [←hw3];clear hw3;refine (HSF.out _ U3.out).mono ?_;rintro r w4 ⟨rfl,rfl⟩;go_wp2;go_ret;exact ⟨w3.heap.size,⟨w2.heap.size,SnV.nil,SlV.nil⟩,by simp,⟨Blk.new_ rfl,(HS.out _ U3.out).no ((Upd.refl No w3).alloc _),⟨HB3.out.alloc _,SnV.Js _ _,Jg.nil none,HN3.out⟩,HN4.out⟩,U3.out.size,U2.out.size,U3.out.alloc _⟩
end
end Go.Proofs.YtmagnkjodjmojaaGreat
