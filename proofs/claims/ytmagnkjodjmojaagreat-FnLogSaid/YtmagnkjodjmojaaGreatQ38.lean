/- A part of the proof of FnLog: laws and walks, with their conditions written at each. -/
import Derived.Test.YtmagnkjodjmojaaGreatQ36
set_option maxRecDepth 20000
set_option maxHeartbeats 4000000
set_option linter.all false
namespace Go.Proofs.YtmagnkjodjmojaaGreat
open Go.RowKit
section
variable {N:Nat} {w w' w0 wa W W':World} {S:Nat→Prop} {A A' A2:StK} {s:StL} {B B' B2:TlK} {u:TlL} {l p ab:Nat} {g g' g2:LgL} {V:Ja}
set_option maxHeartbeats 16000000 in
theorem spDo14 {v:Jc} {c:LCall} {kd:Int} (E:DoE N w l A B g v c wa kd) (hfar:¬(farI≤c.a∨farI≤c.b∨farI≤c.atI)) (hk:kd=14∨kd=26):
  Calls Tryz.prog 9 #[.pointer (some ⟨l,0,none⟩),.agg v.cells] w fun e w'=>DoR N w l A B (LDo g c) e w':=by
 obtain ⟨hwa,HLT,HNW,HNB,HUA,HPB,HRB,HAB,HSA,HVA,HC,HP,HO,HS,HD,p0,p1,p2,p6,HK,k1,k0,HLN⟩:=E;have hfa:c.a<4611686018427387904:=by unfold farI at hfar;omega
 have hfb:c.b<4611686018427387904:=by unfold farI at hfar;omega
 have hfi:c.atI<4611686018427387904:=by unfold farI at hfar;omega
 have HF:=qq hfar;clear hfar;go_enter Tryz.func9,Tryz.ntmps9;go_upto_block 0 with fail
 clear p0;go_cut [7] (fun s7 W=>DoC N wa l A B (w.heap.size+1+1) (LDo g c) s7 W)
 case first=>
  by_cases n14:kd=14
  ·subst n14;have HX0:=qq (show LDo g c=(if g.mc c.atT c.atI=true then some ({LAns.none with flag:=true},g.commit c.atI) else some (LAns.none,g)) by have:=HF.out;unfold LDo;rw [if_neg this,if_neg (by have:=HK.out;omega),if_neg (by have:=HK.out;omega),if_neg (by have:=HK.out;omega),if_pos HK.out]);have p5:wa.cell? ⟨w.heap.size,5,none⟩=some (.int .u64 c.atT):=by rw [←HVA.out.atT];exact HPB.out.cell 5
   have k2:wa.cell? ⟨l,2,none⟩=some (.int .u64 g.com):=HSA.out.c 2;have HXN:=qq fun (h:g.mc c.atT c.atI=false)=>(show LDo g c=some (LAns.none,g) by rw [HX0.out,h];rfl);by_cases e1:c.atT=0
   ·have q1:(c.atT !=0)=false:=by rw [e1];rfl
    have HX:=qq (HXN.out (by unfold LgL.mc;rw [e1];rfl));clear e1;go_wp2_with fail
    go_quiet (fail)
    go_wp2_with fail
    go_meet
    exact (HD.out.no ((Upd.refl No wa).drewN _)).fin (fun he=>by rw [HX.out] at he;cases he) fun An g1 he=>by
     rw [HX.out] at he;cases he;exact ⟨rfl,Ja.Js _ _,rfl⟩
   ·have q1:(c.atT !=0)=true:=bne_iff_ne.2 e1;by_cases e2:g.com<c.atI
    ·have d2:decide (g.com<c.atI)=true:=decide_eq_true e2;have HG:=qq fun (W:World) (hu:Upd No wa W)=>spMatch (t:=c.atT) (HSA.out.no hu) HS.out HC.out.ai0 HC.out.ai1;rw [LgL.matchX_eq (by omega)] at HG;have HR:=qq fun (W:World) (hu:Upd No wa W)=>(HPB.out.upd hu (fun h=>h)).rangeIn v.at_range rfl;rw [HVA.out.atT,HVA.out.atI] at HR;have HU33:=qq Tryz.underlying33;have HI33:=qq inf33;clear e1 e2;go_wp2_with fail
     go_still_tail 18,(by kernel_rfl)
     change wpList _ _ _ _ _ wa.drew;have U0:=qq (show Upd No wa wa.drew from (Upd.refl No wa).drew);generalize wa.drew=w1 at*;go_wp2_with fail
     refine (HG.out _ U0.out).mono ?_;rintro r w2 ⟨rfl,u2⟩;have U2:=qq (U0.out.no u2);clear u2;have p6:=U2.out.cell p6 (fun h=>h);have HD2:=qq (HD.out.no U2.out);have HCM:=qq (spCommit (n:=c.atI) HD2.out.lg HS.out)
     have HLA:=qq fun (h:g.matches c.atT c.atI=true)=>(show ¬g.last<c.atI from fun hl=>by
      have:=HO.out.term_above hl
      unfold LgL.matches at h;simp only [Bool.and_eq_true,decide_eq_true_eq] at h
      exact this h.1)
     rcases hm:g.matches c.atT c.atI with _|_
     ·have HX:=qq (HXN.out (by unfold LgL.mc;rw [hm,Bool.and_false]));clear hm;go_wp2_with fail
      go_meet
      exact (HD2.out).fin (fun he=>by rw [HX.out] at he;cases he) fun An g1 he=>by
       rw [HX.out] at he;cases he;exact ⟨rfl,Ja.Js _ _,rfl⟩
     ·have HX:=qq (show LDo g c=some ({LAns.none with flag:=true},g.commit c.atI) by
       have h1:=of_decide_eq_false (p:=c.atT=0) (by simpa using q1);have h3:g.mc c.atT c.atI=true:=by unfold LgL.mc;rw [d2,hm,decide_eq_true h1];rfl
       rw [HX0.out,if_pos h3])
      have hq:g.commit? c.atI=some (g.commit c.atI):=by unfold LgL.commit?;rw [if_neg (fun h=>HLA.out hm h.2)]
      rw [hq] at HCM;have HCM:=qq HCM.out;clear hm hq;go_wp2_with fail
      refine HCM.out.mono ?_;rintro r w3 ⟨rfl,hl3,hu3⟩;have HD3:=qq (HD2.out.step hl3 hu3 rfl rfl);clear hl3 hu3;have a3:w3.cell? ⟨(w.heap.size+1+1),3,none⟩=some (.bool false):=HD3.out.an.cell 3;have ya:=HD3.out.an.frozen;go_wp2_with fail
      go_meet
      exact (HD3.out.set HNB.out 3 (.bool true) {Ja.nil with flag:=true} rfl).fin (fun he=>by rw [HX.out] at he;cases he) fun An g1 he=>by
       rw [HX.out] at he;cases he;exact ⟨rfl,⟨rfl,rfl,rfl,rfl,rfl,rfl,Jg.nil none,SnV.Js _ _⟩,rfl⟩
    ·have d2:decide (g.com<c.atI)=false:=decide_eq_false e2;have HX:=qq (HXN.out (by unfold LgL.mc;rw [d2,Bool.and_false,Bool.false_and]));clear e1 e2;go_wp2_with fail
     go_quiet (fail)
     go_wp2_with fail
     go_meet
     exact (HD.out.no ((Upd.refl No wa).drewN _)).fin (fun he=>by rw [HX.out] at he;cases he) fun An g1 he=>by
      rw [HX.out] at he;cases he;exact ⟨rfl,Ja.Js _ _,rfl⟩
  have n26:=hk.resolve_left n14;subst n26;have HX:=qq (show LDo g c=(if c.snap.index≤0∨c.snap.index<g.com∨farI≤c.snap.index∨farI≤c.snap.term then none else some (LAns.none,g.restore c.snap)) by have:=HF.out;unfold LDo;rw [if_neg this,if_neg (by have:=HK.out;omega),if_neg (by have:=HK.out;omega),if_neg (by have:=HK.out;omega),if_neg (by have:=HK.out;omega),if_neg (by have:=HK.out;omega),if_neg (by have:=HK.out;omega),if_neg (by have:=HK.out;omega),if_neg (by have:=HK.out;omega),if_neg (by have:=HK.out;omega),if_pos HK.out]);unfold farI at HX;have p11:wa.cell? ⟨w.heap.size,11,none⟩=some (.int .u64 c.snap.index):=by rw [←HVA.out.sn.index];exact HPB.out.cell 11
  have p12:wa.cell? ⟨w.heap.size,12,none⟩=some (.int .u64 c.snap.term):=by rw [←HVA.out.sn.term];exact HPB.out.cell 12
  have k2:wa.cell? ⟨l,2,none⟩=some (.int .u64 g.com):=HSA.out.c 2;have HXN:=qq fun (h:c.snap.index≤0∨c.snap.index<g.com∨4611686018427387904≤c.snap.index∨4611686018427387904≤c.snap.term)=>(show LDo g c=none by rw [HX.out,if_pos h]);have HXY:=qq fun (h:¬(c.snap.index≤0∨c.snap.index<g.com∨4611686018427387904≤c.snap.index∨4611686018427387904≤c.snap.term))=>(show LDo g c=some (LAns.none,g.restore c.snap) by rw [HX.out,if_neg h]);by_cases e1:0<c.snap.index
  ·have d1:decide (0<c.snap.index)=true:=decide_eq_true e1;by_cases e2:g.com≤c.snap.index
   ·have d2:decide (g.com≤c.snap.index)=true:=decide_eq_true e2;by_cases e3:c.snap.index<4611686018427387904
    ·have d3:decide (c.snap.index<4611686018427387904)=true:=decide_eq_true e3;by_cases e4:c.snap.term<4611686018427387904
     ·have d4:decide (c.snap.term<4611686018427387904)=true:=decide_eq_true e4;have HX:=qq (HXY.out (by omega));have HG:=qq fun (W:World) (hu:SpTl N W B g.u) (hv:v.sn.Rd N W c.snap)=>spRestore hu hv (by omega) e3;clear e1 e2 e3 e4 HXN HXY;go_wp2_with fail
      go_quiet (fail)
      obtain ⟨w1,hw1⟩:∃W,W=wa.drewN nq:=⟨_,rfl⟩;have U1:=qq (show Upd No wa w1 by rw [hw1];exact (Upd.refl No wa).drewN nq);rw [←hw1];clear hw1 hwa;have p11:=U1.out.cell p11 (fun h=>h);have k2:=U1.out.cell k2 (fun h=>h);have yl:=(HSA.out.no U1.out).blk.frozen;have HX2:=qq (((HSA.out.no U1.out)).put 2 (.int .u64 c.snap.index) {g with com:=c.snap.index} rfl rfl rfl);have HD2:=qq ((HD.out.no U1.out).step HX2.out.1 HX2.out.2 rfl rfl);have HPB2:=qq ((HPB.out.upd U1.out (fun h=>h)).upd HX2.out.2 (fun hk=>absurd (HLT.out _ hk) (Nat.lt_irrefl _)));have HV2:=qq ((HVA.out.sn.fr U1.out.fr0).fr ((HSA.out.no U1.out).fr_s HX2.out.2));have HU39:=qq Tryz.underlying39;have HI39:=qq v.sn.inf8;go_upto_region 30 with fail
      have k1:(w1.setCell ⟨l,2,none⟩ (.int .u64 c.snap.index)).cell? ⟨l,1,none⟩=some (pp B.b):=HD2.out.lg.c 1;generalize w1.setCell ⟨l,2,none⟩ (.int .u64 c.snap.index)=w2 at*;have HR:=qq fun (W:World) (hu:Upd No w2 W)=>(HPB2.out.upd hu (fun h=>h)).rangeIn v.sn_range rfl;go_still_tail 6,(by kernel_rfl);refine still_load_mid (by rfl) 39 (.tmp 150) rfl w.heap.size 10 rfl v.sn.cells _ (HR.out w2.drew (Upd.refl No w2).drew) HU39.out rfl HI39.out ?_;try simp only [NR]
      refine wpStill_nil ?_;change wpList _ _ _ _ _ w2.drew;have U2:=qq (show Upd No w2 w2.drew from (Upd.refl No w2).drew);generalize w2.drew=w3 at*;go_wp2_with fail
      refine (HG.out _ (HD2.out.no U2.out).lg.tl (HV2.out.fr U2.out.fr0)).mono ?_;rintro r w4 ⟨rfl,⟨B2,hb2,ht⟩,hu⟩;have X2:=(HD2.out.no U2.out).lg.of_tl ht hb2 hu;have HD3:=qq ((HD2.out.no U2.out).step X2.1 X2.2 rfl hb2);clear ht hu X2;go_wp2_with fail
      go_meet
      exact (HD3.out).fin (fun he=>by rw [HX.out] at he;cases he) fun An g1 he=>by
       rw [HX.out] at he;cases he;exact ⟨rfl,Ja.Js _ _,rfl⟩
     ·have d4:decide (c.snap.term<4611686018427387904)=false:=decide_eq_false e4;have HX:=qq (HXN.out (by omega));clear e1 e2 e3 e4;go_wp2_with fail
      go_quiet (fail)
      go_wp2_with fail
      go_meet
      exact (HD.out.no ((Upd.refl No wa).drewN _)).fin (fun _=>rfl) fun An g1 he=>by rw [HX.out] at he;cases he
    ·have d3:decide (c.snap.index<4611686018427387904)=false:=decide_eq_false e3;have HX:=qq (HXN.out (by omega));clear e1 e2 e3;go_wp2_with fail
     go_quiet (fail)
     go_wp2_with fail
     go_meet
     exact (HD.out.no ((Upd.refl No wa).drewN _)).fin (fun _=>rfl) fun An g1 he=>by rw [HX.out] at he;cases he
   ·have d2:decide (g.com≤c.snap.index)=false:=decide_eq_false e2;have HX:=qq (HXN.out (by omega));clear e1 e2;go_wp2_with fail
    go_quiet (fail)
    go_wp2_with fail
    go_meet
    exact (HD.out.no ((Upd.refl No wa).drewN _)).fin (fun _=>rfl) fun An g1 he=>by rw [HX.out] at he;cases he
  ·have d1:decide (0<c.snap.index)=false:=decide_eq_false e1;have HX:=qq (HXN.out (by omega));clear e1;go_wp2_with fail
   go_quiet (fail)
   go_wp2_with fail
   go_meet
   exact (HD.out.no ((Upd.refl No wa).drewN _)).fin (fun _=>rfl) fun An g1 he=>by rw [HX.out] at he;cases he
 case rest=>
  obtain ⟨V,bb,A',B',g',rfl,hd,h1,h2⟩:=hcut;have HD:=qq hd;have H1:=qq h1;have H2:=qq h2;obtain ⟨k2,k3,k4,k7,a16,a17,a18,a19⟩:=hd.sees;have ya:=hd.an.frozen;have hla:=hd.lg.blk.ne_ hd.an (by decide);clear hd h1 h2;go_wp2_with fail
  go_region
  obtain ⟨V2,hV2⟩:∃X,X=V.beh g':=⟨_,rfl⟩;have HV2:=qq hV2;obtain ⟨w8,hw8,HB8,HL8,HR8,HUU,HF8⟩:=HD.out.last HLT.out HNB.out HUA.out HRB.out;rw [←hV2] at HB8;rw [←hw8];clear hV2 hw8 k2 k3 k4 k7 a16 a17 a18 a19 ya hla;have HSZ:=qq (show Ja.nil.cells.size=V2.cells.size from rfl);have HIN:=qq V2.inf;have HON:=qq V2.one
  go_wp2_with (first
   |(with_reducible refine Jm rfl 48 (.tmp 6) rfl (w.heap.size+1+1) V2.cells rfl 48 _ HB8.out Tryz.underlying48 rfl HIN.out ?_)
   |(with_reducible refine Jk rfl 48 (.tmp 4) (.tmp 198) rfl (w.heap.size+1) V2.cells rfl rfl 48 Ja.nil.cells HR8.out HIN.out HSZ.out HON.out ?_
     intro w9 hb9 hu9;have HB9:=qq hb9;have HU9:=qq hu9
     clear hb9 hu9)
   |fail)
  refine Jw rfl (w.heap.size+1) 48 V2.cells _ rfl HB9.out Tryz.underlying48 rfl HIN.out rfl ?_;refine doFin HLT.out HNW.out HUU.out HD.out.hA HD.out.hB HL8.out HR8.out HU9.out H1.out fun An g1 he=>?_;obtain ⟨h3,h4,h5⟩:=H2.out An g1 he;exact ⟨h3,⟨V,h5 ▸HV2.out,h4.fr HF8.out⟩,h5⟩
end
end Go.Proofs.YtmagnkjodjmojaaGreat
