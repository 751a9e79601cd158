/- A part of the proof of FnLog: laws and walks, with their conditions written at each. -/
import Derived.Test.YtmagnkjodjmojaaGreatQ36
set_option maxRecDepth 20000
set_option maxHeartbeats 4000000
set_option linter.all false
namespace Go.Proofs.YtmagnkjodjmojaaGreat
open Go.RowKit
section
variable {N:Nat} {w w' w0 wa W W':World} {S:Nat→Prop} {A A' A2:StK} {s:StL} {B B' B2:TlK} {u:TlL} {l p ab:Nat} {g g' g2:LgL} {V:Ja}
set_option maxHeartbeats 16000000 in
theorem spDo34 {v:Jc} {c:LCall} {kd:Int} (E:DoE N w l A B g v c wa kd) (hfar:¬(farI≤c.a∨farI≤c.b∨farI≤c.atI)) (n34:kd=34):
  Calls Tryz.prog 9 #[.pointer (some ⟨l,0,none⟩),.agg v.cells] w fun e w'=>DoR N w l A B (LDo g c) e w':=by
 obtain ⟨hwa,HLT,HNW,HNB,HUA,HPB,HRB,HAB,HSA,HVA,HC,HP,HO,HS,HD,p0,p1,p2,p6,HK,k1,k0,HLN⟩:=E;subst n34;have hfa:c.a<4611686018427387904:=by unfold farI at hfar;omega
 have hfb:c.b<4611686018427387904:=by unfold farI at hfar;omega
 have hfi:c.atI<4611686018427387904:=by unfold farI at hfar;omega
 have HF:=qq hfar;clear hfar;go_enter Tryz.func9,Tryz.ntmps9;go_upto_block 0 with fail
 clear p0;go_cut [7] (fun s7 W=>DoC N wa l A B (w.heap.size+1+1) (LDo g c) s7 W)
 case first=>
  have HX:=qq (show LDo g c=((SDo g.s c.st).map fun x=>({LAns.none with err:=x.1.err,n:=x.1.n,es:=x.1.es,snap:=x.1.snap},{g with s:=x.2})) by have:=HF.out;unfold LDo;rw [if_neg this,if_neg (by have:=HK.out;omega),if_neg (by have:=HK.out;omega),if_neg (by have:=HK.out;omega),if_neg (by have:=HK.out;omega),if_neg (by have:=HK.out;omega),if_neg (by have:=HK.out;omega),if_neg (by have:=HK.out;omega),if_neg (by have:=HK.out;omega),if_neg (by have:=HK.out;omega),if_neg (by have:=HK.out;omega),if_pos HK.out]);have HG:=qq fun (W:World) (hu:Upd No wa W)=>spStDo (HSA.out.no hu).st HS.out.s (HVA.out.st.fr hu.fr0) HC.out.st;have hlp:=HPB.out.ne_ HSA.out.st.blk (by decide)
  have HXS:=qq fun (W:World) (hu:Upd (fun k=>k=A.b∨wa.heap.size≤k) wa W)=>(show W.cell? ⟨l,0,none⟩=some (pp A.b)∧W.rangeAt w.heap.size 18 v.st.cells.toList from
   ⟨hu.cell k0 (by
    rintro (e|e)
    ·exact HSA.out.blk.ne_ HSA.out.st.blk (by decide) e
    ·have:=HSA.out.blk.lt;omega),
    (HPB.out.upd hu (by
    rintro (e|e)
    ·exact hlp e
    ·have:=HPB.out.lt;omega)).rangeIn v.st_range rfl⟩)
  have HBS:=qq (show (w.heap.size+1+1)<wa.heap.size from HAB.out.lt);have HI43:=qq v.st.inf;have HU43:=qq Tryz.underlying43;clear hlp hwa;go_upto_region 32 with fail
  go_cut [8,9] (fun s8 s9 W=>DoX N wa l A B (w.heap.size+1+1) g (SDo g.s c.st) s8 s9 W)
  case first=>
   clear p1 p2 p6 k0 k1;refine wp_region_held_drew (S:=fun W=>W.cell? ⟨l,0,none⟩=some (pp A.b)∧W.rangeAt w.heap.size 18 v.st.cells.toList) (by kernel_rfl) (HXS.out _ ((Upd.refl No wa).drew).ofNo) (fun hHeld=>?_);refine td 0 156 rfl ?_ ?_ ?_;rotate_left 1
   ·intro w hS;go_simp;all_goals with_reducible rfl
   try simp only [NR]
   refine td 1 157 rfl ?_ ?_ ?_;rotate_left 1
   ·intro w hS;go_simp;all_goals with_reducible rfl
   try simp only [NR]
   refine td 2 158 rfl ?_ ?_ ?_;rotate_left 1
   ·intro w hS;go_simp;all_goals with_reducible rfl
   try simp only [NR]
   refine td 3 159 rfl ?_ ?_ ?_;rotate_left 1
   ·intro w hS;go_simp;all_goals with_reducible rfl
   try simp only [NR]
   refine td 4 160 rfl ?_ ?_ ?_;rotate_left 1
   ·intro w hS;go_simp;all_goals with_reducible rfl
   try simp only [NR]
   refine wpAnyH_take (i:=5) (oi:=⟨some 161,_,_,_,_,_⟩) (v:=.agg v.st.cells) rfl (by kernel_rfl) (by kernel_rfl) (by kernel_rfl) (fun _ _ _ h=>h) (Kd (by rfl) 43 (.tmp 160) rfl w.heap.size 18 rfl v.st.cells _ (fun _ hS=>hS.2) HU43.out rfl HI43.out) hHeld ?_;try simp only [NR]
   refine wpAnyH_ready (rs:=[6,10]) (by kernel_rfl) (by simp) ?_;refine AllReadyH.cons (o:=_) rfl (fun K hK=>?_) (AllReadyH.cons (o:=_) rfl (fun K hK=>?_) AllReadyH.nil)
   ·rw [if_pos (by rfl)];go_simp;refine (HG.out _ (Upd.refl No wa).drew).mono ?_;rintro r w2 ⟨V,bb,A2,s2,rfl,hA2,hS2,hu2,h1,h2⟩;have X2:=(HSA.out.no (Upd.refl No wa).drew).of_st hS2 hA2 hu2;have HD2:=qq ((HD.out.no (Upd.refl No wa).drew).step X2.1 X2.2 hA2 rfl);have HU2:=qq (show Upd (fun k=>k=A.b∨wa.heap.size≤k) wa w2 from (((Upd.refl No wa).drew).ofNo (S:=fun k=>k=A.b∨wa.heap.size≤k)).Ke (hu2.mono fun k hk=>.inl hk));have H3:=qq (And.intro h1 h2);clear hS2 hA2 hu2 h1 h2 X2;go_wp2_with fail
    refine hK.out _ _ (HXS.out _ HU2.out) (fun hHeld=>?_);clear hK;try simp only [NR]
    refine td 7 155 rfl ?_ ?_ ?_;rotate_left 1
    ·intro w hS;go_simp;all_goals with_reducible rfl
    try simp only [NR]
    refine td 8 163 rfl ?_ ?_ ?_;rotate_left 1
    ·intro w hS;go_simp;all_goals with_reducible rfl
    try simp only [NR]
    refine td 9 164 rfl ?_ ?_ ?_;rotate_left 1
    ·intro w hS;go_simp;all_goals with_reducible rfl
    try simp only [NR]
    refine wpAnyH_ready (rs:=[10]) (by kernel_rfl) (by simp) ?_;refine ac rfl fun K hK=>?_;rw [if_pos (by rfl)];go_simp;refine hK.out _ _ (HXS.out _ (HU2.out.alloc _)) (fun hHeld=>?_);clear hK;try simp only [NR]
    have HBN:=qq (Blk.new w2 69 Jb.nil.cells);have HSZ:=qq HU2.out.size;have HVF:=qq fun (An:SAns) (h:V.Rd N w2 An)=>h.fr ((Upd.refl No w2).alloc (.cells Jb.nil.cells 69)).fr0;have HD2:=qq (HD2.out.no ((Upd.refl No w2).alloc (.cells Jb.nil.cells 69)));have HU2:=qq (HU2.out.alloc (.cells Jb.nil.cells 69));refine wpAnyH_ready (rs:=[11]) (by kernel_rfl) (by simp) ?_;refine ac rfl fun K hK=>?_;refine step_store_blk rfl 69 (.tmp 8) (.tmp 163) rfl w2.heap.size V.cells rfl rfl 69 Jb.nil.cells HBN.out V.inf rfl V.one ?_;intro w3 hb3 hu3;have hf3:=hu3.fr (N:=N) (by rintro k rfl;exact HBN.out.mutb (by have:=HSZ.out;have:=HNB.out;have:=HBS.out;omega) rfl);have HD3:=qq (HD2.out.far hu3 (by have:=HSZ.out;have:=HBS.out;omega) hf3 (fun hk=>by have:=HLT.out _ hk;have:=HSZ.out;have:=HBS.out;omega) HSZ.out);have HB3:=qq hb3;have HV3:=qq fun (An:SAns) (s':StL) (he:SDo g.s c.st=some (An,s'))=>(show bb=true∧V.Rd N w3 An∧s'=s2 from ⟨(H3.out.2 An s' he).1,(HVF.out _ (H3.out.2 An s' he).2.1).fr hf3,(H3.out.2 An s' he).2.2⟩);have HU3:=qq (HU2.out.Ke (hu3.mono (fun k hk=>.inr (by have:=HSZ.out;omega))));clear hf3 hb3 hu3;refine hK.out _ _ (HXS.out _ HU3.out) (fun hHeld=>?_);clear hK;try simp only [NR]
    refine wpAnyH_ready (rs:=[12]) (by kernel_rfl) (by simp) ?_;refine ac rfl fun K hK=>?_;rw [if_pos (by rfl)];go_simp;refine hK.out _ _ (HXS.out _ HU3.out) (fun hHeld=>?_);clear hK;try simp only [NR]
    refine wpAnyH_done (by kernel_rfl) ?_ _;go_wp2_with fail
    go_meet
    exact ⟨w2.heap.size,bb,V,A2,s2,rfl,rfl,(by have:=HSZ.out;have:=HBS.out;omega),HB3.out,HD3.out,H3.out.1,HV3.out⟩
   ·rw [if_pos (by rfl)];go_simp;refine hK.out _ _ (HXS.out _ ((((Upd.refl No wa).drew).alloc (.cells Jb.nil.cells 69))).ofNo) (fun hHeld=>?_);clear hK;try simp only [NR]
    refine wpAnyH_ready (rs:=[6]) (by kernel_rfl) (by simp) ?_;refine ac rfl fun K hK=>?_;rw [if_pos (by rfl)];go_simp;refine (HG.out _ (((Upd.refl No wa).drew).alloc (.cells Jb.nil.cells 69))).mono ?_;rintro r w2 ⟨V,bb,A2,s2,rfl,hA2,hS2,hu2,h1,h2⟩;have X2:=(HSA.out.no (((Upd.refl No wa).drew).alloc (.cells Jb.nil.cells 69))).of_st hS2 hA2 hu2;have HD2:=qq ((HD.out.no (((Upd.refl No wa).drew).alloc (.cells Jb.nil.cells 69))).step X2.1 X2.2 hA2 rfl);have HU2:=qq (show Upd (fun k=>k=A.b∨wa.heap.size≤k) wa w2 from (((((Upd.refl No wa).drew).alloc (.cells Jb.nil.cells 69))).ofNo (S:=fun k=>k=A.b∨wa.heap.size≤k)).Ke (hu2.mono fun k hk=>.inl hk));have H3:=qq (And.intro h1 h2);have HSZ:=qq (Nat.le_refl wa.heap.size);have HBN:=qq (show Blk w2 wa.heap.size 69 Jb.nil.cells from ((Blk.new wa.drew 69 Jb.nil.cells)).upd hu2 (fun (e:wa.heap.size=A.b)=>by have:=HSA.out.st.blk.lt;omega));have HVF:=qq fun (An:SAns) (h:V.Rd N w2 An)=>h;clear hS2 hA2 hu2 h1 h2 X2;go_wp2_with fail
    refine hK.out _ _ (HXS.out _ HU2.out) (fun hHeld=>?_);clear hK;try simp only [NR]
    refine td 7 155 rfl ?_ ?_ ?_;rotate_left 1
    ·intro w hS;go_simp;all_goals with_reducible rfl
    try simp only [NR]
    refine td 8 163 rfl ?_ ?_ ?_;rotate_left 1
    ·intro w hS;go_simp;all_goals with_reducible rfl
    try simp only [NR]
    refine td 9 164 rfl ?_ ?_ ?_;rotate_left 1
    ·intro w hS;go_simp;all_goals with_reducible rfl
    try simp only [NR]
    refine wpAnyH_ready (rs:=[11]) (by kernel_rfl) (by simp) ?_;refine ac rfl fun K hK=>?_;refine step_store_blk rfl 69 (.tmp 8) (.tmp 163) rfl wa.heap.size V.cells rfl rfl 69 Jb.nil.cells HBN.out V.inf rfl V.one ?_;intro w3 hb3 hu3;have hf3:=hu3.fr (N:=N) (by rintro k rfl;exact HBN.out.mutb (by have:=HSZ.out;have:=HNB.out;have:=HBS.out;omega) rfl);have HD3:=qq (HD2.out.far hu3 (by have:=HSZ.out;have:=HBS.out;omega) hf3 (fun hk=>by have:=HLT.out _ hk;have:=HSZ.out;have:=HBS.out;omega) HSZ.out);have HB3:=qq hb3;have HV3:=qq fun (An:SAns) (s':StL) (he:SDo g.s c.st=some (An,s'))=>(show bb=true∧V.Rd N w3 An∧s'=s2 from ⟨(H3.out.2 An s' he).1,(HVF.out _ (H3.out.2 An s' he).2.1).fr hf3,(H3.out.2 An s' he).2.2⟩);have HU3:=qq (HU2.out.Ke (hu3.mono (fun k hk=>.inr (by have:=HSZ.out;omega))));clear hf3 hb3 hu3;refine hK.out _ _ (HXS.out _ HU3.out) (fun hHeld=>?_);clear hK;try simp only [NR]
    refine wpAnyH_ready (rs:=[12]) (by kernel_rfl) (by simp) ?_;refine ac rfl fun K hK=>?_;rw [if_pos (by rfl)];go_simp;refine hK.out _ _ (HXS.out _ HU3.out) (fun hHeld=>?_);clear hK;try simp only [NR]
    refine wpAnyH_done (by kernel_rfl) ?_ _;go_wp2_with fail
    go_meet
    exact ⟨wa.heap.size,bb,V,A2,s2,rfl,rfl,(by have:=HSZ.out;have:=HBS.out;omega),HB3.out,HD3.out,H3.out.1,HV3.out⟩
  case rest=>
   obtain ⟨x,bb,V,A2,s2,rfl,rfl,hxa,hbx,hd,h1,h2⟩:=hcut;clear k0 k1 p1 p2 p6;obtain ⟨wx,hwx⟩:∃W,W=wc:=⟨_,rfl⟩;rw [←hwx] at hbx hd h2 ⊢;clear hwx;have HD0:=qq hd;have H3:=qq (And.intro h1 h2);have HFX:=qq (hd.an.mutb HNB.out rfl)
   have HXS:=qq fun (W:World) (hu:Upd (fun k=>k=(w.heap.size+1+1)) wx W)=>(show W.cell? ⟨x,0,none⟩=some (.int .i64 V.err)∧W.cell? ⟨x,1,none⟩=some (.int .u64 V.n)∧W.cell? ⟨x,2,none⟩=some V.es.v∧W.rangeAt x 3 V.sn.cells.toList from
    have hb:=hbx.upd hu hxa
    ⟨hb.cell 0,hb.cell 1,hb.cell 2,hb.rangeIn V.sn_range rfl⟩)
   have HI39:=qq V.sn.inf8;have HU39:=qq Tryz.underlying39;clear hd h1 h2 hbx hxa;go_upto_region 33 with fail
   obtain ⟨w0,hw0⟩:∃W,W=wx.drew:=⟨_,rfl⟩;have HU0:=qq (show Upd (fun k=>k=(w.heap.size+1+1)) wx w0 by rw [hw0];exact (Upd.refl _ wx).drew);have HD0:=qq (show DoS N wa l A B (w.heap.size+1+1) Ja.nil A2 B {g with s:=s2} w0 by rw [hw0];exact HD0.out.no (Upd.refl No wx).drew);refine wp_region_held_drew (S:=fun W=>W.cell? ⟨x,0,none⟩=some (.int .i64 V.err)∧W.cell? ⟨x,1,none⟩=some (.int .u64 V.n)∧W.cell? ⟨x,2,none⟩=some V.es.v∧W.rangeAt x 3 V.sn.cells.toList) (by kernel_rfl) (HXS.out _ ((Upd.refl _ wx).drew)) (fun hHeld=>?_);rw [←hw0] at hHeld ⊢;clear hw0;refine td 0 165 rfl ?_ ?_ ?_;rotate_left 1
   ·intro w hS;go_simp;all_goals with_reducible rfl
   try simp only [NR]
   refine td 1 166 rfl ?_ ?_ ?_;rotate_left 1
   ·intro w hS;go_simp;all_goals with_reducible rfl
   try simp only [NR]
   refine td 2 167 rfl ?_ ?_ ?_;rotate_left 1
   ·intro w hS;go_simp;all_goals with_reducible rfl
   try simp only [NR]
   refine td 3 168 rfl ?_ ?_ ?_;rotate_left 1
   ·intro w hS;go_simp;all_goals with_reducible rfl
   try simp only [NR]
   refine td 4 169 rfl ?_ ?_ ?_;rotate_left 1
   ·intro w hS;go_simp;all_goals with_reducible rfl
   try simp only [NR]
   refine td 5 170 rfl ?_ ?_ ?_;rotate_left 1
   ·intro w hS;go_simp;all_goals with_reducible rfl
   try simp only [NR]
   refine td 6 171 rfl ?_ ?_ ?_;rotate_left 1
   ·intro w hS;go_simp;all_goals with_reducible rfl
   try simp only [NR]
   refine wpAnyH_take (i:=7) (oi:=⟨some 172,_,_,_,_,_⟩) (v:=.agg V.sn.cells) rfl (by kernel_rfl) (by kernel_rfl) (by kernel_rfl) (fun _ _ _ h=>h) (Kd (by rfl) 39 (.tmp 171) rfl x 3 rfl V.sn.cells _ (fun _ hS=>hS.2.2.2) HU39.out rfl HI39.out) hHeld ?_;try simp only [NR]
   refine td 8 173 rfl ?_ ?_ ?_;rotate_left 1
   ·intro w hS;go_simp;all_goals with_reducible rfl
   try simp only [NR]
   refine wpAnyH_ready (rs:=[9]) (by kernel_rfl) (by simp) ?_;refine ac rfl fun K hK=>?_;have a0:w0.cell? ⟨(w.heap.size+1+1),0,none⟩=some (.int .i64 0):=HD0.out.an.cell 0;have ya:=HD0.out.an.frozen;rw [if_pos (by rfl)];go_simp;have HD1:=qq (HD0.out.set HNB.out 0 (.int .i64 V.err) {Ja.nil with err:=V.err} rfl);have HU1:=qq (show Upd (fun k=>k=(w.heap.size+1+1)) wx (w0.setCell ⟨(w.heap.size+1+1),0,none⟩ (.int .i64 V.err)) from HU0.out.setIn rfl 0 _);refine hK.out _ _ (HXS.out _ HU1.out) (fun hHeld=>?_);clear hK;try simp only [NR]
   clear a0 ya;generalize w0.setCell ⟨(w.heap.size+1+1),0,none⟩ (.int .i64 V.err)=w1 at*;refine td 10 174 rfl ?_ ?_ ?_;rotate_left 1
   ·intro w hS;go_simp;all_goals with_reducible rfl
   try simp only [NR]
   refine wpAnyH_ready (rs:=[11]) (by kernel_rfl) (by simp) ?_;refine ac rfl fun K hK=>?_;have a1:w1.cell? ⟨(w.heap.size+1+1),1,none⟩=some (.int .u64 0):=HD1.out.an.cell 1;have ya:=HD1.out.an.frozen;rw [if_pos (by rfl)];go_simp;have HD2:=qq (HD1.out.set HNB.out 1 (.int .u64 V.n) {Ja.nil with err:=V.err,n:=V.n} rfl);have HU2:=qq (show Upd (fun k=>k=(w.heap.size+1+1)) wx (w1.setCell ⟨(w.heap.size+1+1),1,none⟩ (.int .u64 V.n)) from HU1.out.setIn rfl 1 _);refine hK.out _ _ (HXS.out _ HU2.out) (fun hHeld=>?_);clear hK;try simp only [NR]
   clear a1 ya;generalize w1.setCell ⟨(w.heap.size+1+1),1,none⟩ (.int .u64 V.n)=w2 at*;refine td 12 175 rfl ?_ ?_ ?_;rotate_left 1
   ·intro w hS;go_simp;all_goals with_reducible rfl
   try simp only [NR]
   refine wpAnyH_ready (rs:=[13]) (by kernel_rfl) (by simp) ?_;refine ac rfl fun K hK=>?_;have a6:w2.cell? ⟨(w.heap.size+1+1),6,none⟩=some (.slice none 0 0):=HD2.out.an.cell 6;have ya:=HD2.out.an.frozen;rw [if_pos (by rfl)];go_simp;have HD3:=qq (HD2.out.set HNB.out 6 V.es.v {Ja.nil with err:=V.err,n:=V.n,es:=V.es} rfl);have HU3:=qq (show Upd (fun k=>k=(w.heap.size+1+1)) wx (w2.setCell ⟨(w.heap.size+1+1),6,none⟩ V.es.v) from HU2.out.setIn rfl 6 _);refine hK.out _ _ (HXS.out _ HU3.out) (fun hHeld=>?_);clear hK;try simp only [NR]
   clear a6 ya;generalize w2.setCell ⟨(w.heap.size+1+1),6,none⟩ V.es.v=w3 at*;refine td 14 176 rfl ?_ ?_ ?_;rotate_left 1
   ·intro w hS;go_simp;all_goals with_reducible rfl
   try simp only [NR]
   refine wpAnyH_ready (rs:=[15]) (by kernel_rfl) (by simp) ?_;refine ac rfl fun K hK=>?_;refine step_store_mid rfl 39 (.tmp 176) (.tmp 172) rfl (w.heap.size+1+1) 8 V.sn.cells rfl rfl 48 _ ({Ja.nil with err:=V.err,n:=V.n,es:=V.es,sn:=V.sn}:Ja).cells HD3.out.an (fun W hb=>Ja.putSn V.sn hb) (snLe _ V.sn) HI39.out V.sn.one8 ?_;intro w4 hb4 hu4;have HD4:=qq (HD3.out.putBlk HNB.out hu4 hb4);have HU4:=qq (HU3.out.Ke hu4);clear hb4 hu4;refine hK.out _ _ (HXS.out _ HU4.out) (fun hHeld=>?_);clear hK;try simp only [NR]
   refine wpAnyH_done (by kernel_rfl) ?_ _;go_wp2_with fail
   go_meet
   have hf4:=HU4.out.fr (N:=N) (by rintro k rfl;exact HFX.out);refine HD4.out.fin (fun he=>?_) fun An g1 he=>?_
   ·rw [HX.out] at he;rcases hq:SDo g.s c.st with _|⟨A1,s1⟩
    ·exact H3.out.1 hq
    ·rw [hq] at he;cases he
   ·rw [HX.out] at he;rcases hq:SDo g.s c.st with _|⟨A1,s1⟩
    ·rw [hq] at he;cases he
    ·rw [hq] at he;cases he;obtain ⟨h3,h4,h5⟩:=H3.out.2 A1 s1 hq;have h6:=h4.fr hf4;exact ⟨h3,⟨h6.err,h6.n,rfl,rfl,rfl,rfl,h6.es,h6.sn⟩,by rw [h5]⟩
 case rest=>
  obtain ⟨V,bb,A',B',g',rfl,hd,h1,h2⟩:=hcut;have HD:=qq hd;have H1:=qq h1;have H2:=qq h2;obtain ⟨k2,k3,k4,k7,a16,a17,a18,a19⟩:=hd.sees;have ya:=hd.an.frozen;have hla:=hd.lg.blk.ne_ hd.an (by decide);clear hd h1 h2;go_wp2_with fail
  go_region
  obtain ⟨V2,hV2⟩:∃X,X=V.beh g':=⟨_,rfl⟩;have HV2:=qq hV2;obtain ⟨w8,hw8,HB8,HL8,HR8,HUU,HF8⟩:=HD.out.last HLT.out HNB.out HUA.out HRB.out;rw [←hV2] at HB8;rw [←hw8];clear hV2 hw8 k2 k3 k4 k7 a16 a17 a18 a19 ya hla;have HSZ:=qq (show Ja.nil.cells.size=V2.cells.size from rfl);have HIN:=qq V2.inf;have HON:=qq V2.one
  go_wp2_with (first
   |(with_reducible refine Jm rfl 48 (.tmp 6) rfl (w.heap.size+1+1) V2.cells rfl 48 _ HB8.out Tryz.underlying48 rfl HIN.out ?_)
   |(with_reducible refine Jk rfl 48 (.tmp 4) (.tmp 198) rfl (w.heap.size+1) V2.cells rfl rfl 48 Ja.nil.cells HR8.out HIN.out HSZ.out HON.out ?_
     intro w9 hb9 hu9;have HB9:=qq hb9;have HU9:=qq hu9
     clear hb9 hu9)
   |fail)
  refine Jw rfl (w.heap.size+1) 48 V2.cells _ rfl HB9.out Tryz.underlying48 rfl HIN.out rfl ?_;refine doFin HLT.out HNW.out HUU.out HD.out.hA HD.out.hB HL8.out HR8.out HU9.out H1.out fun An g1 he=>?_;obtain ⟨h3,h4,h5⟩:=H2.out An g1 he;exact ⟨h3,⟨V,h5 ▸HV2.out,h4.fr HF8.out⟩,h5⟩
end
end Go.Proofs.YtmagnkjodjmojaaGreat
