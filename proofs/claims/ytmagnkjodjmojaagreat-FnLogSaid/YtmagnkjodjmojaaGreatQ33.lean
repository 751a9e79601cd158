/- A part of the proof of FnLog: laws and walks, with their conditions written at each. -/
import Derived.Test.YtmagnkjodjmojaaGreatQ31
import Derived.Test.YtmagnkjodjmojaaGreatQ32
set_option maxRecDepth 20000
set_option maxHeartbeats 4000000
set_option linter.all false
namespace Go.Proofs.YtmagnkjodjmojaaGreat
open Go.RowKit
section
variable {N:Nat} {w w' w0:World} {S:Nat→Prop} {A A':StK} {s:StL} {B B':TlK} {u:TlL} {l p ab:Nat} {g g':LgL}
theorem askFin {X:Option (LAns×LgL)} {wN wF:World} {bb:Bool} {V:Ja} (hu1:Upd No w wN) (hu2:Upd (fun k=>k=ab) wN wF) (hb:Blk wF ab 48 V.cells) (h1:X=none→bb=false) (h2:∀An g',X=some (An,g')→bb=true∧V.Rd N wF An∧g'=g):
  AskR N w ab X g (.returned (.bool bb)) wF:=⟨V,bb,rfl,hb,hu1.ofNo.Ke hu2,h1,h2⟩
theorem Ja.putSn {W:World} {V:Ja} (T:SnV) (hb:Blk W ab 48 V.cells):Blk (W.setCells ab 8 (#[.string T.data,.int .u64 T.index,.int .u64 T.term,.slice T.cf.vo.A T.cf.vo.n T.cf.vo.c,.slice T.cf.le.A T.cf.le.n T.cf.le.c,.slice T.cf.ou.A T.cf.ou.n T.cf.ou.c,.slice T.cf.ne.A T.cf.ne.n T.cf.ne.c,.bool T.cf.auto]:Array Value).toList) ab 48 ({V with sn:=T}:Ja).cells:=
 (show ((((((((V.cells.setIfInBounds 8 (.string T.data)).setIfInBounds 9 (.int .u64 T.index)).setIfInBounds 10 (.int .u64 T.term)).setIfInBounds 11 (.slice T.cf.vo.A T.cf.vo.n T.cf.vo.c)).setIfInBounds 12 (.slice T.cf.le.A T.cf.le.n T.cf.le.c)).setIfInBounds 13 (.slice T.cf.ou.A T.cf.ou.n T.cf.ou.c)).setIfInBounds 14 (.slice T.cf.ne.A T.cf.ne.n T.cf.ne.c)).setIfInBounds 15 (.bool T.cf.auto))=({V with sn:=T}:Ja).cells by simp [Ja.cells]) ▸((((((((hb.set_ 8 (.string T.data)).set_ 9 (.int .u64 T.index)).set_ 10 (.int .u64 T.term)).set_ 11 (.slice T.cf.vo.A T.cf.vo.n T.cf.vo.c)).set_ 12 (.slice T.cf.le.A T.cf.le.n T.cf.le.c)).set_ 13 (.slice T.cf.ou.A T.cf.ou.n T.cf.ou.c)).set_ 14 (.slice T.cf.ne.A T.cf.ne.n T.cf.ne.c)).set_ 15 (.bool T.cf.auto))
theorem sn39 (T:SnV):(#[.string T.data,.int .u64 T.index,.int .u64 T.term,.slice T.cf.vo.A T.cf.vo.n T.cf.vo.c,.slice T.cf.le.A T.cf.le.n T.cf.le.c,.slice T.cf.ou.A T.cf.ou.n T.cf.ou.c,.slice T.cf.ne.A T.cf.ne.n T.cf.ne.c,.bool T.cf.auto]:Array Value).all (·.oneCell')=true:=by simp [Value.oneCell']
theorem snLe (V:Ja) (T:SnV):8+(#[.string T.data,.int .u64 T.index,.int .u64 T.term,.slice T.cf.vo.A T.cf.vo.n T.cf.vo.c,.slice T.cf.le.A T.cf.le.n T.cf.le.c,.slice T.cf.ou.A T.cf.ou.n T.cf.ou.c,.slice T.cf.ne.A T.cf.ne.n T.cf.ne.c,.bool T.cf.auto]:Array Value).size≤V.cells.size:=(by decide:(16:Nat)≤21)
theorem snInf (T:SnV):(Tryz.prog.info? 39).map (·.size)=some (#[.string T.data,.int .u64 T.index,.int .u64 T.term,.slice T.cf.vo.A T.cf.vo.n T.cf.vo.c,.slice T.cf.le.A T.cf.le.n T.cf.le.c,.slice T.cf.ou.A T.cf.ou.n T.cf.ou.c,.slice T.cf.ne.A T.cf.ne.n T.cf.ne.c,.bool T.cf.auto]:Array Value).size:=inf39
theorem spAsk_3 (h:Ka N w l A B g) (hp:g.Pre) (ho:g.Ok) {v:Jc} {c:LCall} (hv:v.Rd N w c) (hc:c.Ok) (hfa:c.a<4611686018427387904) (hfb:c.b<4611686018427387904) (hfi:c.atI<4611686018427387904) (hb:Blk w ab 48 Ja.nil.cells) (hN:N≤ab) (hk:v.kind=3):
  Calls Tryz.prog 31 #[.pointer (some ⟨l,0,none⟩),.agg v.cells,.pointer (some ⟨ab,0,none⟩)] w fun e w'=>AskR N w ab (g.ask c) g e w':=by
 have hs:=hp.isSm;have hkc:c.kind=3:=hv.kind.symm.trans hk;have hva:=hv.a;have hvb:=hv.b;have hvf:=hv.flag;have hvt:=hv.atT;have hvi:=hv.atI;obtain ⟨wa,hwa⟩:∃W,w.alloc (.cells v.cells 45)=W:=⟨_,rfl⟩;have HUA:=qq (show Upd No w wa by rw [←hwa];exact (Upd.refl No w).alloc _);have HPB:=qq (show Blk wa w.heap.size 45 v.cells by rw [←hwa];exact Blk.new w _ _);have HSA:=qq (h.no HUA.out);have HAB:=qq (hb.upd HUA.out (fun h=>h));have HNB:=qq hN;have p0:wa.cell? ⟨w.heap.size,0,none⟩=some (.int .i64 3):=by rw [←hk];exact HPB.out.cell 0
 have p1:wa.cell? ⟨w.heap.size,1,none⟩=some (.int .u64 c.a):=by rw [←hva];exact HPB.out.cell 1
 have p2:wa.cell? ⟨w.heap.size,2,none⟩=some (.int .u64 c.b):=by rw [←hvb];exact HPB.out.cell 2
 have p4:wa.cell? ⟨w.heap.size,4,none⟩=some (.bool c.flag):=by rw [←hvf];exact HPB.out.cell 4
 have p5:wa.cell? ⟨w.heap.size,5,none⟩=some (.int .u64 c.atT):=by rw [←hvt];exact HPB.out.cell 5
 have p6:wa.cell? ⟨w.heap.size,6,none⟩=some (.int .u64 c.atI):=by rw [←hvi];exact HPB.out.cell 6
 have k1:wa.cell? ⟨l,1,none⟩=some (pp B.b):=HSA.out.c 1;have k0:wa.cell? ⟨l,0,none⟩=some (pp A.b):=HSA.out.c 0;have hX:g.ask c=(if rowB c.es=true then some ({LAns.none with n:=g.conflict c.es},g) else none):=by unfold LgL.ask;rw [if_pos hkc]
 have HX:=qq hX;have p9:wa.cell? ⟨w.heap.size,9,none⟩=some v.es.v:=HPB.out.cell 9;have hes:v.es.n≤100000:=by have:=hv.es.len;have:=hc.len;omega
 have HEA:=qq (hv.es.fr HUA.out.fr0);have HCF:=qq (spConflict HSA.out hs HEA.out hc.es hes);have HRW:=qq fun (W:World) (hf:Fr N wa W)=>(spRow (HEA.out.fr hf) hc.es hes).toU;have HEQ:=qq fun (hr:rowB c.es=true)=>LgL.conflictX_eq (g:=g) (rowB_idx hr);have hpa:=HPB.out.ne_ HAB.out (by decide);obtain ⟨x,hx⟩:∃x,x=g.conflictX c.es:=⟨_,rfl⟩;rw [←hx] at HCF HEQ;clear h hp ho hs hX hv hc hb hkc hk hva hvb hvf hvt hvi hN;clear hx hes;go_enter Tryz.func31,Tryz.ntmps31;go_wp2_with fail
 refine HCF.out.mono ?_;rintro r w2 ⟨rfl,u2⟩;have U2:=qq u2;clear u2;have HABW:=qq (HAB.out.upd U2.out (fun h=>h));have a1:w2.cell? ⟨ab,1,none⟩=some (.int .u64 0):=HABW.out.cell 1;have ya:=HABW.out.frozen;have HUF:=qq (show Upd (fun k=>k=ab) w2 (w2.setCell ⟨ab,1,none⟩ (.int .u64 x)) from (Upd.refl (fun k=>k=ab) w2).setIn rfl 1 _);have HFF:=qq (HUF.out.fr (N:=N) (by rintro k rfl;exact HABW.out.mutb HNB.out rfl));have HBF:=qq (show Blk (w2.setCell ⟨ab,1,none⟩ (.int .u64 x)) ab 48 ({Ja.nil with n:=x}:Ja).cells from HABW.out.set_ 1 _);have p9:=U2.out.cell p9 (fun h=>h);go_wp2_with fail
 refine (HRW.out _ (U2.out.fr0.trans HFF.out)).mono ?_;rintro r w3 ⟨rfl,u3⟩;have U3:=qq u3;clear u3;go_wp2;go_ret;refine askFin (V:={Ja.nil with n:=x}) (bb:=rowB c.es) (HUA.out.no U2.out) (HUF.out.no U3.out) (HBF.out.upd U3.out (fun h=>h)) (fun he=>?_) fun An g1 he=>?_
 ·rw [HX.out] at he;rcases hr:rowB c.es with _|_
  ·rfl
  ·rw [if_pos hr] at he;cases he
 ·rw [HX.out] at he;rcases hr:rowB c.es with _|_
  ·rw [if_neg (by rw [hr];decide)] at he;cases he
  ·rw [if_pos hr] at he;cases he;exact ⟨rfl,⟨rfl,HEQ.out hr,rfl,rfl,rfl,rfl,Jg.nil none,SnV.Js _ _⟩,rfl⟩
theorem spAsk_4 (h:Ka N w l A B g) (hp:g.Pre) (ho:g.Ok) {v:Jc} {c:LCall} (hv:v.Rd N w c) (hc:c.Ok) (hfa:c.a<4611686018427387904) (hfb:c.b<4611686018427387904) (hfi:c.atI<4611686018427387904) (hb:Blk w ab 48 Ja.nil.cells) (hN:N≤ab) (hk:v.kind=4):
  Calls Tryz.prog 31 #[.pointer (some ⟨l,0,none⟩),.agg v.cells,.pointer (some ⟨ab,0,none⟩)] w fun e w'=>AskR N w ab (g.ask c) g e w':=by
 have hs:=hp.isSm;have hkc:c.kind=4:=hv.kind.symm.trans hk;have hva:=hv.a;have hvb:=hv.b;have hvf:=hv.flag;have hvt:=hv.atT;have hvi:=hv.atI;obtain ⟨wa,hwa⟩:∃W,w.alloc (.cells v.cells 45)=W:=⟨_,rfl⟩;have HUA:=qq (show Upd No w wa by rw [←hwa];exact (Upd.refl No w).alloc _);have HPB:=qq (show Blk wa w.heap.size 45 v.cells by rw [←hwa];exact Blk.new w _ _);have HSA:=qq (h.no HUA.out);have HAB:=qq (hb.upd HUA.out (fun h=>h));have HNB:=qq hN;have p0:wa.cell? ⟨w.heap.size,0,none⟩=some (.int .i64 4):=by rw [←hk];exact HPB.out.cell 0
 have p1:wa.cell? ⟨w.heap.size,1,none⟩=some (.int .u64 c.a):=by rw [←hva];exact HPB.out.cell 1
 have p2:wa.cell? ⟨w.heap.size,2,none⟩=some (.int .u64 c.b):=by rw [←hvb];exact HPB.out.cell 2
 have p4:wa.cell? ⟨w.heap.size,4,none⟩=some (.bool c.flag):=by rw [←hvf];exact HPB.out.cell 4
 have p5:wa.cell? ⟨w.heap.size,5,none⟩=some (.int .u64 c.atT):=by rw [←hvt];exact HPB.out.cell 5
 have p6:wa.cell? ⟨w.heap.size,6,none⟩=some (.int .u64 c.atI):=by rw [←hvi];exact HPB.out.cell 6
 have k1:wa.cell? ⟨l,1,none⟩=some (pp B.b):=HSA.out.c 1;have k0:wa.cell? ⟨l,0,none⟩=some (pp A.b):=HSA.out.c 0;have hX:g.ask c=some (if g.last<c.a then {LAns.none with n:=c.a} else {LAns.none with n:=(g.byTerm c.b c.a.toNat).1,m:=(g.byTerm c.b c.a.toNat).2},g):=by unfold LgL.ask;rw [if_neg (by omega),if_pos hkc]
 have HX:=qq hX;have hlb:=hs.last_bd;have hln:=hs.last_nn;have hca0:=hc.a0;have HL2:=qq fun (W:World) (hu:Upd No wa W)=>(spLast (HSA.out.no hu) hs.s hs.u).toU;have HLQ:=qq fun (W:World) (h:Ka N W l A B g) (n:Nat)=>spLast (h.drewN n) hs.s hs.u;have HBT:=qq fun (W:World) (hu:Upd No wa W)=>spByTerm (i:=min c.a (g.last+1)) (t:=c.b) (HSA.out.no hu) hs (by omega) (by omega);have jw:IntKind.u64.wrap (g.last+1)=g.last+1:=by simp [IntKind.wrap_u64];omega
 have hpa:=HPB.out.ne_ HAB.out (by decide)
 have HXX:=qq (show ∀r1 r2,g.byTerm c.b (min c.a (g.last+1)).toNat=(r1,r2)→¬g.last<c.a→g.ask c=some ({LAns.none with n:=r1,m:=r2},g) from fun r1 r2 hr hl=>by
  rw [hX,if_neg hl];rw [show min c.a (g.last+1)=c.a by omega] at hr
  rw [hr])
 have HXY:=qq (show g.last<c.a→g.ask c=some ({LAns.none with n:=c.a},g) from fun hl=>by rw [hX,if_pos hl]);clear HX;generalize hbr:g.byTerm c.b (min c.a (g.last+1)).toNat=br at*;obtain ⟨r1,r2⟩:=br;simp only at HBT;clear h hp ho hs hX hbr hca0 hv hc hb hkc hk hva hvb hvf hvt hvi hN;generalize g.last=la at*;have HSS:=qq fun (W:World) (hu:Upd No wa W)=>(show W.cell? ⟨w.heap.size,1,none⟩=some (.int .u64 c.a)∧W.cell? ⟨w.heap.size,2,none⟩=some (.int .u64 c.b) from ⟨hu.cell p1 (fun h=>h),hu.cell p2 (fun h=>h)⟩);have s0:=HSS.out wa.drew (Upd.refl _ _).drew;have UD:=qq (show Upd No wa wa.drew from (Upd.refl _ _).drew);go_enter Tryz.func31,Tryz.ntmps31;go_wp2_with fail
 clear p0 p1 p2 p4 p5 p6 k0 k1 hwa;refine wp_region_held_drew (S:=(fun W=>W.cell? ⟨w.heap.size,1,none⟩=some (.int .u64 c.a)∧W.cell? ⟨w.heap.size,2,none⟩=some (.int .u64 c.b))) (by kernel_rfl) (s0) (fun hHeld=>?_);refine td 0 26 rfl ?_ ?_ ?_;rotate_left 1
 ·intro w hS;go_simp;all_goals with_reducible rfl
 try simp only [NR]
 refine td 1 27 rfl ?_ ?_ ?_;rotate_left 1
 ·intro w hS;go_simp;all_goals with_reducible rfl
 try simp only [NR]
 refine td 2 28 rfl ?_ ?_ ?_;rotate_left 1
 ·intro w hS;go_simp;all_goals with_reducible rfl
 try simp only [NR]
 refine td 3 29 rfl ?_ ?_ ?_;rotate_left 1
 ·intro w hS;go_simp;all_goals with_reducible rfl
 try simp only [NR]
 refine td 4 30 rfl ?_ ?_ ?_;rotate_left 1
 ·intro w hS;go_simp;all_goals with_reducible rfl
 try simp only [NR]
 refine td 5 31 rfl ?_ ?_ ?_;rotate_left 1
 ·intro w hS;go_simp;all_goals with_reducible rfl
 try simp only [NR]
 refine td 9 35 rfl ?_ ?_ ?_;rotate_left 1
 ·intro w hS;go_simp;all_goals with_reducible rfl
 try simp only [NR]
 refine td 10 36 rfl ?_ ?_ ?_;rotate_left 1
 ·intro w hS;go_simp;all_goals with_reducible rfl
 try simp only [NR]
 refine wpAnyH_ready (rs:=[6]) (by kernel_rfl) (by simp) ?_;refine AllReadyH.cons (o:=⟨some 32,_,_,_,_,_⟩) rfl (fun K hK=>?_) AllReadyH.nil;rw [if_pos (by rfl)];go_simp;refine (HL2.out _ UD.out).mono ?_;rintro r w3 ⟨rfl,u3⟩;have U3:=qq (UD.out.no u3);clear u3;go_wp2_with fail
 refine hK.out _ _ (HSS.out w3 U3.out) (fun hHeld=>?_);clear hK;try simp only [NR]
 refine td 7 33 rfl ?_ ?_ ?_;rotate_left 1
 ·intro w hS;go_simp;all_goals with_reducible rfl
 try simp only [NR]
 refine wpAnyH_ready (rs:=[8]) (by kernel_rfl) (by simp) ?_;refine AllReadyH.cons (o:=⟨some 34,_,_,_,_,_⟩) rfl (fun K hK=>?_) AllReadyH.nil;rw [if_pos (by rfl)];go_simp;refine hK.out _ _ (hHeld) (fun hHeld=>?_);clear hK;try simp only [NR]
 refine wpAnyH_ready (rs:=[11]) (by kernel_rfl) (by simp) ?_;refine AllReadyH.cons (o:=⟨some 37,_,_,_,_,_⟩) rfl (fun K hK=>?_) AllReadyH.nil;rw [if_pos (by rfl)];go_simp;refine (HBT.out _ U3.out).mono ?_;rintro r w4 ⟨rfl,u4⟩;have U4:=qq (U3.out.no u4);clear u4;have HB4:=qq (HAB.out.upd U4.out (fun h=>h));have a1:w4.cell? ⟨ab,1,none⟩=some (.int .u64 0):=HB4.out.cell 1;have a2:w4.cell? ⟨ab,2,none⟩=some (.int .u64 0):=HB4.out.cell 2;have ya:=HB4.out.frozen;go_wp2_with fail
 refine hK.out _ _ (HSS.out w4 U4.out) (fun hHeld=>?_);clear hK;try simp only [NR]
 refine td 12 25 rfl ?_ ?_ ?_;rotate_left 1
 ·intro w hS;go_simp;all_goals with_reducible rfl
 try simp only [NR]
 refine td 13 38 rfl ?_ ?_ ?_;rotate_left 1
 ·intro w hS;go_simp;all_goals with_reducible rfl
 try simp only [NR]
 refine td 14 39 rfl ?_ ?_ ?_;rotate_left 1
 ·intro w hS;go_simp;all_goals with_reducible rfl
 try simp only [NR]
 refine td 15 40 rfl ?_ ?_ ?_;rotate_left 1
 ·intro w hS;go_simp;all_goals with_reducible rfl
 try simp only [NR]
 refine td 16 41 rfl ?_ ?_ ?_;rotate_left 1
 ·intro w hS;go_simp;all_goals with_reducible rfl
 try simp only [NR]
 refine wpAnyH_ready (rs:=[17]) (by kernel_rfl) (by simp) ?_;refine AllReadyH.cons (o:=⟨none,_,_,_,_,_⟩) rfl (fun K hK=>?_) AllReadyH.nil;rw [if_pos (by rfl)];go_simp;refine hK.out _ _ (⟨((Upd.refl (fun k=>k=ab) w4).setIn rfl 1 _).cell (HSS.out w4 U4.out).1 hpa,((Upd.refl (fun k=>k=ab) w4).setIn rfl 1 _).cell (HSS.out w4 U4.out).2 hpa⟩) (fun hHeld=>?_);clear hK;try simp only [NR]
 refine td 18 42 rfl ?_ ?_ ?_;rotate_left 1
 ·intro w hS;go_simp;all_goals with_reducible rfl
 try simp only [NR]
 refine td 19 43 rfl ?_ ?_ ?_;rotate_left 1
 ·intro w hS;go_simp;all_goals with_reducible rfl
 try simp only [NR]
 refine wpAnyH_ready (rs:=[20]) (by kernel_rfl) (by simp) ?_;refine AllReadyH.cons (o:=⟨none,_,_,_,_,_⟩) rfl (fun K hK=>?_) AllReadyH.nil;rw [if_pos (by rfl)];go_simp;refine hK.out _ _ (⟨(((Upd.refl (fun k=>k=ab) w4).setIn rfl 1 _).setIn rfl 2 _).cell (HSS.out w4 U4.out).1 hpa,(((Upd.refl (fun k=>k=ab) w4).setIn rfl 1 _).setIn rfl 2 _).cell (HSS.out w4 U4.out).2 hpa⟩) (fun hHeld=>?_);clear hK;try simp only [NR]
 refine wpAnyH_done (by kernel_rfl) ?_ _;obtain ⟨w5,hw5⟩:∃W,W=(w4.setCell ⟨ab,1,none⟩ (.int .u64 r1)).setCell ⟨ab,2,none⟩ (.int .u64 r2):=⟨_,rfl⟩;have HU5:=qq (show Upd (fun k=>k=ab) w4 w5 by rw [hw5];exact ((Upd.refl (fun k=>k=ab) w4).setIn rfl 1 _).setIn rfl 2 _);have HB5:=qq (show Blk w5 ab 48 ({Ja.nil with n:=r1,m:=r2}:Ja).cells by rw [hw5];exact (HB4.out.set_ 1 _).set_ 2 _);rw [←hw5];have HL5:=qq (HLQ.out w5 ((HSA.out.no U4.out).at_ab HB4.out HNB.out HU5.out));have p1:w5.cell? ⟨w.heap.size,1,none⟩=some (.int .u64 c.a):=HU5.out.cell (HSS.out w4 U4.out).1 hpa;clear hw5 a1 a2 ya jw;by_cases hl:la<c.a
 ·have hd:decide (la<c.a)=true:=decide_eq_true hl;have HX:=qq (HXY.out hl);clear hl;go_wp2_with fail
  go_quiet ((go_at_call 22;exact Ji (HL5.out _)))
  obtain ⟨w6,hw6⟩:∃W,W=w5.drewN nq:=⟨_,rfl⟩;have HB6:=qq (show Blk w6 ab 48 ({Ja.nil with n:=r1,m:=r2}:Ja).cells by rw [hw6];exact HB5.out.drewN _);have HU6:=qq (show Upd (fun k=>k=ab) w4 w6 by rw [hw6];exact HU5.out.drewN _);have p1:w6.cell? ⟨w.heap.size,1,none⟩=some (.int .u64 c.a):=by rw [hw6];exact p1
  rw [←hw6];clear hw6 hd;have a1:w6.cell? ⟨ab,1,none⟩=some (.int .u64 r1):=HB6.out.cell 1;have a2:w6.cell? ⟨ab,2,none⟩=some (.int .u64 r2):=HB6.out.cell 2;have ya:=HB6.out.frozen;have HBF:=qq (show Blk ((w6.setCell ⟨ab,1,none⟩ (.int .u64 c.a)).setCell ⟨ab,2,none⟩ (.int .u64 0)) ab 48 ({Ja.nil with n:=c.a}:Ja).cells from (HB6.out.set_ 1 _).set_ 2 _);have HUF:=qq (show Upd (fun k=>k=ab) w4 ((w6.setCell ⟨ab,1,none⟩ (.int .u64 c.a)).setCell ⟨ab,2,none⟩ (.int .u64 0)) from (HU6.out.setCell (.inl rfl) _).setCell (.inl rfl) _);go_wp2;go_ret;exact askFin (V:={Ja.nil with n:=c.a}) (bb:=true) (HUA.out.no U4.out) HUF.out HBF.out (fun he=>(by rw [HX.out] at he;cases he)) fun An g1 he=>by
   rw [HX.out] at he;cases he;exact ⟨rfl,⟨rfl,rfl,rfl,rfl,rfl,rfl,Jg.nil none,SnV.Js _ _⟩,rfl⟩
 ·have hd:decide (la<c.a)=false:=decide_eq_false hl;have HX:=qq (HXX.out r1 r2 rfl (by omega));clear hl;go_wp2_with fail
  go_quiet ((go_at_call 22;exact Ji (HL5.out _)))
  go_wp2;go_ret;exact askFin (V:={Ja.nil with n:=r1,m:=r2}) (bb:=true) (HUA.out.no U4.out) (HU5.out.drewN _) (HB5.out.drewN _) (fun he=>(by rw [HX.out] at he;cases he)) fun An g1 he=>by
   rw [HX.out] at he;cases he;exact ⟨rfl,⟨rfl,rfl,rfl,rfl,rfl,rfl,Jg.nil none,SnV.Js _ _⟩,rfl⟩
theorem spAsk_5 (h:Ka N w l A B g) (hp:g.Pre) (ho:g.Ok) {v:Jc} {c:LCall} (hv:v.Rd N w c) (hc:c.Ok) (hfa:c.a<4611686018427387904) (hfb:c.b<4611686018427387904) (hfi:c.atI<4611686018427387904) (hb:Blk w ab 48 Ja.nil.cells) (hN:N≤ab) (hk:v.kind=5):
  Calls Tryz.prog 31 #[.pointer (some ⟨l,0,none⟩),.agg v.cells,.pointer (some ⟨ab,0,none⟩)] w fun e w'=>AskR N w ab (g.ask c) g e w':=by
 have hs:=hp.isSm;have hkc:c.kind=5:=hv.kind.symm.trans hk;have hva:=hv.a;have hvb:=hv.b;have hvf:=hv.flag;have hvt:=hv.atT;have hvi:=hv.atI;obtain ⟨wa,hwa⟩:∃W,w.alloc (.cells v.cells 45)=W:=⟨_,rfl⟩;have HUA:=qq (show Upd No w wa by rw [←hwa];exact (Upd.refl No w).alloc _);have HPB:=qq (show Blk wa w.heap.size 45 v.cells by rw [←hwa];exact Blk.new w _ _);have HSA:=qq (h.no HUA.out);have HAB:=qq (hb.upd HUA.out (fun h=>h));have HNB:=qq hN;have p0:wa.cell? ⟨w.heap.size,0,none⟩=some (.int .i64 5):=by rw [←hk];exact HPB.out.cell 0
 have p1:wa.cell? ⟨w.heap.size,1,none⟩=some (.int .u64 c.a):=by rw [←hva];exact HPB.out.cell 1
 have p2:wa.cell? ⟨w.heap.size,2,none⟩=some (.int .u64 c.b):=by rw [←hvb];exact HPB.out.cell 2
 have p4:wa.cell? ⟨w.heap.size,4,none⟩=some (.bool c.flag):=by rw [←hvf];exact HPB.out.cell 4
 have p5:wa.cell? ⟨w.heap.size,5,none⟩=some (.int .u64 c.atT):=by rw [←hvt];exact HPB.out.cell 5
 have p6:wa.cell? ⟨w.heap.size,6,none⟩=some (.int .u64 c.atI):=by rw [←hvi];exact HPB.out.cell 6
 have k1:wa.cell? ⟨l,1,none⟩=some (pp B.b):=HSA.out.c 1;have k0:wa.cell? ⟨l,0,none⟩=some (pp A.b):=HSA.out.c 0;have hX:g.ask c=some ({LAns.none with flag:=g.upToDate c.atT c.atI},g):=by unfold LgL.ask;rw [if_neg (by omega),if_neg (by omega),if_pos hkc]
 have HX:=qq hX;have HF:=qq (spLastID HSA.out hs);unfold LgL.upToDate at HX;generalize g.lastT=x1 at*;generalize g.last=x2 at*;clear h hp ho hs hX hv hc hb hkc hk hva hvb hvf hvt hvi hN;by_cases e1:x1<c.atT
 ·have d1:decide (x1<c.atT)=true:=decide_eq_true e1;rw [d1,Bool.true_or] at HX;clear e1;go_enter Tryz.func31,Tryz.ntmps31;go_wp2_with fail
  refine HF.out.mono ?_;rintro r w2 ⟨rfl,u2⟩;have U2:=qq u2;clear u2;have p5:=cell_alloc (o:=.cells #[.int .u64 x1,.int .u64 x2] 33) (U2.out.cell p5 (fun h=>h));have p6:=cell_alloc (o:=.cells #[.int .u64 x1,.int .u64 x2] 33) (U2.out.cell p6 (fun h=>h));have n0:(w2.alloc (.cells #[.int .u64 x1,.int .u64 x2] 33)).cell? ⟨w2.heap.size,0,none⟩=some (.int .u64 x1):=(Blk.new w2 33 #[.int .u64 x1,.int .u64 x2]).cell 0;have n1:(w2.alloc (.cells #[.int .u64 x1,.int .u64 x2] 33)).cell? ⟨w2.heap.size,1,none⟩=some (.int .u64 x2):=(Blk.new w2 33 #[.int .u64 x1,.int .u64 x2]).cell 1;have HABW:=qq (show Blk (w2.alloc (.cells #[.int .u64 x1,.int .u64 x2] 33)) ab 48 Ja.nil.cells from HAB.out.upd (U2.out.alloc _) (fun h=>h));have a3:(w2.alloc (.cells #[.int .u64 x1,.int .u64 x2] 33)).cell? ⟨ab,3,none⟩=some (.bool false):=HABW.out.cell 3;have ya:=HABW.out.frozen;have HUF:=qq (show Upd (fun k=>k=ab) (w2.alloc (.cells #[.int .u64 x1,.int .u64 x2] 33)) ((w2.alloc (.cells #[.int .u64 x1,.int .u64 x2] 33)).setCell ⟨ab,3,none⟩ (.bool true)) from ((Upd.refl (fun k=>k=ab) (w2.alloc (.cells #[.int .u64 x1,.int .u64 x2] 33))).setIn rfl 3 (.bool true)));have HFF:=qq (HUF.out.fr (N:=N) (by rintro k rfl;exact HABW.out.mutb HNB.out rfl));have HBF:=qq (show Blk ((w2.alloc (.cells #[.int .u64 x1,.int .u64 x2] 33)).setCell ⟨ab,3,none⟩ (.bool true)) ab 48 ({Ja.nil with flag:=true}:Ja).cells from (HABW.out.set_ 3 (.bool true)));go_wp2;go_ret
  exact askFin (V:={Ja.nil with flag:=true}) (bb:=true) (HUA.out.no (U2.out.alloc _)) HUF.out HBF.out (fun he=>(by rw [HX.out] at he;cases he)) fun An g1 he=>by
   rw [HX.out] at he;cases he;exact ⟨rfl,⟨rfl,rfl,rfl,rfl,rfl,rfl,Jg.nil none,SnV.Js _ _⟩,rfl⟩
 ·have d1:decide (x1<c.atT)=false:=decide_eq_false e1;by_cases e2:c.atT=x1
  ·have d2:decide (c.atT=x1)=true:=decide_eq_true e2;have q2:(c.atT==x1)=true:=beq_iff_eq.2 e2;rw [d1,d2,Bool.false_or,Bool.true_and] at HX;clear e1 e2 d2;go_enter Tryz.func31,Tryz.ntmps31;go_wp2_with fail
   refine HF.out.mono ?_;rintro r w2 ⟨rfl,u2⟩;have U2:=qq u2;clear u2;have p5:=cell_alloc (o:=.cells #[.int .u64 x1,.int .u64 x2] 33) (U2.out.cell p5 (fun h=>h));have p6:=cell_alloc (o:=.cells #[.int .u64 x1,.int .u64 x2] 33) (U2.out.cell p6 (fun h=>h));have n0:(w2.alloc (.cells #[.int .u64 x1,.int .u64 x2] 33)).cell? ⟨w2.heap.size,0,none⟩=some (.int .u64 x1):=(Blk.new w2 33 #[.int .u64 x1,.int .u64 x2]).cell 0;have n1:(w2.alloc (.cells #[.int .u64 x1,.int .u64 x2] 33)).cell? ⟨w2.heap.size,1,none⟩=some (.int .u64 x2):=(Blk.new w2 33 #[.int .u64 x1,.int .u64 x2]).cell 1;have HABW:=qq (show Blk (w2.alloc (.cells #[.int .u64 x1,.int .u64 x2] 33)) ab 48 Ja.nil.cells from HAB.out.upd (U2.out.alloc _) (fun h=>h));have a3:(w2.alloc (.cells #[.int .u64 x1,.int .u64 x2] 33)).cell? ⟨ab,3,none⟩=some (.bool false):=HABW.out.cell 3;have ya:=HABW.out.frozen;have HUF:=qq (show Upd (fun k=>k=ab) (w2.alloc (.cells #[.int .u64 x1,.int .u64 x2] 33)) ((w2.alloc (.cells #[.int .u64 x1,.int .u64 x2] 33)).setCell ⟨ab,3,none⟩ (.bool (decide (x2≤c.atI)))) from ((Upd.refl (fun k=>k=ab) (w2.alloc (.cells #[.int .u64 x1,.int .u64 x2] 33))).setIn rfl 3 (.bool (decide (x2≤c.atI)))));have HFF:=qq (HUF.out.fr (N:=N) (by rintro k rfl;exact HABW.out.mutb HNB.out rfl));have HBF:=qq (show Blk ((w2.alloc (.cells #[.int .u64 x1,.int .u64 x2] 33)).setCell ⟨ab,3,none⟩ (.bool (decide (x2≤c.atI)))) ab 48 ({Ja.nil with flag:=(decide (x2≤c.atI))}:Ja).cells from (HABW.out.set_ 3 (.bool (decide (x2≤c.atI)))))
   go_wp2;go_ret;exact askFin (V:={Ja.nil with flag:=(decide (x2≤c.atI))}) (bb:=true) (HUA.out.no (U2.out.alloc _)) HUF.out HBF.out (fun he=>(by rw [HX.out] at he;cases he)) fun An g1 he=>by
    rw [HX.out] at he;cases he;exact ⟨rfl,⟨rfl,rfl,rfl,rfl,rfl,rfl,Jg.nil none,SnV.Js _ _⟩,rfl⟩
  ·have d2:decide (c.atT=x1)=false:=decide_eq_false e2;have q2:(c.atT==x1)=false:=beq_eq_false_iff_ne.2 e2;rw [d1,d2,Bool.false_or,Bool.false_and] at HX;clear e1 e2 d2;go_enter Tryz.func31,Tryz.ntmps31;go_wp2_with fail
   refine HF.out.mono ?_;rintro r w2 ⟨rfl,u2⟩;have U2:=qq u2;clear u2;have p5:=cell_alloc (o:=.cells #[.int .u64 x1,.int .u64 x2] 33) (U2.out.cell p5 (fun h=>h));have p6:=cell_alloc (o:=.cells #[.int .u64 x1,.int .u64 x2] 33) (U2.out.cell p6 (fun h=>h));have n0:(w2.alloc (.cells #[.int .u64 x1,.int .u64 x2] 33)).cell? ⟨w2.heap.size,0,none⟩=some (.int .u64 x1):=(Blk.new w2 33 #[.int .u64 x1,.int .u64 x2]).cell 0;have n1:(w2.alloc (.cells #[.int .u64 x1,.int .u64 x2] 33)).cell? ⟨w2.heap.size,1,none⟩=some (.int .u64 x2):=(Blk.new w2 33 #[.int .u64 x1,.int .u64 x2]).cell 1;have HABW:=qq (show Blk (w2.alloc (.cells #[.int .u64 x1,.int .u64 x2] 33)) ab 48 Ja.nil.cells from HAB.out.upd (U2.out.alloc _) (fun h=>h));have a3:(w2.alloc (.cells #[.int .u64 x1,.int .u64 x2] 33)).cell? ⟨ab,3,none⟩=some (.bool false):=HABW.out.cell 3;have ya:=HABW.out.frozen;have HUF:=qq (show Upd (fun k=>k=ab) (w2.alloc (.cells #[.int .u64 x1,.int .u64 x2] 33)) ((w2.alloc (.cells #[.int .u64 x1,.int .u64 x2] 33)).setCell ⟨ab,3,none⟩ (.bool false)) from ((Upd.refl (fun k=>k=ab) (w2.alloc (.cells #[.int .u64 x1,.int .u64 x2] 33))).setIn rfl 3 (.bool false)));have HFF:=qq (HUF.out.fr (N:=N) (by rintro k rfl;exact HABW.out.mutb HNB.out rfl));have HBF:=qq (show Blk ((w2.alloc (.cells #[.int .u64 x1,.int .u64 x2] 33)).setCell ⟨ab,3,none⟩ (.bool false)) ab 48 ({Ja.nil with flag:=false}:Ja).cells from (HABW.out.set_ 3 (.bool false)));go_wp2;go_ret
   exact askFin (V:={Ja.nil with flag:=false}) (bb:=true) (HUA.out.no (U2.out.alloc _)) HUF.out HBF.out (fun he=>(by rw [HX.out] at he;cases he)) fun An g1 he=>by
    rw [HX.out] at he;cases he;exact ⟨rfl,⟨rfl,rfl,rfl,rfl,rfl,rfl,Jg.nil none,SnV.Js _ _⟩,rfl⟩
theorem spAsk_6 (h:Ka N w l A B g) (hp:g.Pre) (ho:g.Ok) {v:Jc} {c:LCall} (hv:v.Rd N w c) (hc:c.Ok) (hfa:c.a<4611686018427387904) (hfb:c.b<4611686018427387904) (hfi:c.atI<4611686018427387904) (hb:Blk w ab 48 Ja.nil.cells) (hN:N≤ab) (hk:v.kind=6):
  Calls Tryz.prog 31 #[.pointer (some ⟨l,0,none⟩),.agg v.cells,.pointer (some ⟨ab,0,none⟩)] w fun e w'=>AskR N w ab (g.ask c) g e w':=by
 have hs:=hp.isSm;have hkc:c.kind=6:=hv.kind.symm.trans hk;have hva:=hv.a;have hvb:=hv.b;have hvf:=hv.flag;have hvt:=hv.atT;have hvi:=hv.atI;obtain ⟨wa,hwa⟩:∃W,w.alloc (.cells v.cells 45)=W:=⟨_,rfl⟩;have HUA:=qq (show Upd No w wa by rw [←hwa];exact (Upd.refl No w).alloc _);have HPB:=qq (show Blk wa w.heap.size 45 v.cells by rw [←hwa];exact Blk.new w _ _);have HSA:=qq (h.no HUA.out);have HAB:=qq (hb.upd HUA.out (fun h=>h));have HNB:=qq hN;have p0:wa.cell? ⟨w.heap.size,0,none⟩=some (.int .i64 6):=by rw [←hk];exact HPB.out.cell 0
 have p1:wa.cell? ⟨w.heap.size,1,none⟩=some (.int .u64 c.a):=by rw [←hva];exact HPB.out.cell 1
 have p2:wa.cell? ⟨w.heap.size,2,none⟩=some (.int .u64 c.b):=by rw [←hvb];exact HPB.out.cell 2
 have p4:wa.cell? ⟨w.heap.size,4,none⟩=some (.bool c.flag):=by rw [←hvf];exact HPB.out.cell 4
 have p5:wa.cell? ⟨w.heap.size,5,none⟩=some (.int .u64 c.atT):=by rw [←hvt];exact HPB.out.cell 5
 have p6:wa.cell? ⟨w.heap.size,6,none⟩=some (.int .u64 c.atI):=by rw [←hvi];exact HPB.out.cell 6
 have k1:wa.cell? ⟨l,1,none⟩=some (pp B.b):=HSA.out.c 1;have k0:wa.cell? ⟨l,0,none⟩=some (pp A.b):=HSA.out.c 0;have hX:g.ask c=some ({LAns.none with flag:=g.matches c.atT c.atI},g):=by unfold LgL.ask;rw [if_neg (by omega),if_neg (by omega),if_neg (by omega),if_pos hkc]
 have HX:=qq hX;have HF:=qq (spMatch (t:=c.atT) HSA.out hs hc.ai0 hc.ai1);rw [LgL.matchX_eq (by omega)] at HF;obtain ⟨x,hx⟩:∃x,x=g.matches c.atT c.atI:=⟨_,rfl⟩;rw [←hx] at HF HX;clear h hp ho hs hX hv hc hb hkc hk hva hvb hvf hvt hvi hN;clear hx;go_enter Tryz.func31,Tryz.ntmps31;go_wp2_with fail
 refine HF.out.mono ?_;rintro r w2 ⟨rfl,u2⟩;have U2:=qq u2;clear u2;have HABW:=qq (show Blk w2 ab 48 Ja.nil.cells from HAB.out.upd U2.out (fun h=>h));have a3:w2.cell? ⟨ab,3,none⟩=some (.bool false):=HABW.out.cell 3;have ya:=HABW.out.frozen;have HUF:=qq (show Upd (fun k=>k=ab) w2 (w2.setCell ⟨ab,3,none⟩ (.bool x)) from ((Upd.refl (fun k=>k=ab) w2).setIn rfl 3 (.bool x)));have HFF:=qq (HUF.out.fr (N:=N) (by rintro k rfl;exact HABW.out.mutb HNB.out rfl));have HBF:=qq (show Blk (w2.setCell ⟨ab,3,none⟩ (.bool x)) ab 48 ({Ja.nil with flag:=x}:Ja).cells from (HABW.out.set_ 3 (.bool x)));go_wp2;go_ret;exact askFin (V:={Ja.nil with flag:=x}) (bb:=true) (HUA.out.no U2.out) HUF.out HBF.out (fun he=>(by rw [HX.out] at he;cases he)) fun An g1 he=>by
  rw [HX.out] at he;cases he;exact ⟨rfl,⟨rfl,rfl,rfl,rfl,rfl,rfl,Jg.nil none,SnV.Js _ _⟩,rfl⟩
theorem spAsk_7 (h:Ka N w l A B g) (hp:g.Pre) (ho:g.Ok) {v:Jc} {c:LCall} (hv:v.Rd N w c) (hc:c.Ok) (hfa:c.a<4611686018427387904) (hfb:c.b<4611686018427387904) (hfi:c.atI<4611686018427387904) (hb:Blk w ab 48 Ja.nil.cells) (hN:N≤ab) (hk:v.kind=7):
  Calls Tryz.prog 31 #[.pointer (some ⟨l,0,none⟩),.agg v.cells,.pointer (some ⟨ab,0,none⟩)] w fun e w'=>AskR N w ab (g.ask c) g e w':=by
 have hs:=hp.isSm;have hkc:c.kind=7:=hv.kind.symm.trans hk;have hva:=hv.a;have hvb:=hv.b;have hvf:=hv.flag;have hvt:=hv.atT;have hvi:=hv.atI;obtain ⟨wa,hwa⟩:∃W,w.alloc (.cells v.cells 45)=W:=⟨_,rfl⟩;have HUA:=qq (show Upd No w wa by rw [←hwa];exact (Upd.refl No w).alloc _);have HPB:=qq (show Blk wa w.heap.size 45 v.cells by rw [←hwa];exact Blk.new w _ _);have HSA:=qq (h.no HUA.out);have HAB:=qq (hb.upd HUA.out (fun h=>h));have HNB:=qq hN;have p0:wa.cell? ⟨w.heap.size,0,none⟩=some (.int .i64 7):=by rw [←hk];exact HPB.out.cell 0
 have p1:wa.cell? ⟨w.heap.size,1,none⟩=some (.int .u64 c.a):=by rw [←hva];exact HPB.out.cell 1
 have p2:wa.cell? ⟨w.heap.size,2,none⟩=some (.int .u64 c.b):=by rw [←hvb];exact HPB.out.cell 2
 have p4:wa.cell? ⟨w.heap.size,4,none⟩=some (.bool c.flag):=by rw [←hvf];exact HPB.out.cell 4
 have p5:wa.cell? ⟨w.heap.size,5,none⟩=some (.int .u64 c.atT):=by rw [←hvt];exact HPB.out.cell 5
 have p6:wa.cell? ⟨w.heap.size,6,none⟩=some (.int .u64 c.atI):=by rw [←hvi];exact HPB.out.cell 6
 have k1:wa.cell? ⟨l,1,none⟩=some (pp B.b):=HSA.out.c 1;have k0:wa.cell? ⟨l,0,none⟩=some (pp A.b):=HSA.out.c 0;have hX:g.ask c=some ({LAns.none with n:=(g.term c.a).1,err:=(g.term c.a).2},g):=by unfold LgL.ask;rw [if_neg (by omega),if_neg (by omega),if_neg (by omega),if_neg (by omega),if_pos hkc]
 have HX:=qq hX;have HF:=qq (spTerm HSA.out hs hc.a0 hc.a1).toU;rw [LgL.termX_eq (by omega)] at HF;generalize g.term c.a=x at*;obtain ⟨x1,x2⟩:=x;simp only at HF HX;clear h hp ho hs hX hv hc hb hkc hk hva hvb hvf hvt hvi hN;go_enter Tryz.func31,Tryz.ntmps31;go_wp2_with fail
 refine HF.out.mono ?_;rintro r w2 ⟨rfl,u2⟩;have U2:=qq u2;clear u2;have HABW:=qq (show Blk w2 ab 48 Ja.nil.cells from HAB.out.upd U2.out (fun h=>h));have a1:w2.cell? ⟨ab,1,none⟩=some (.int .u64 0):=HABW.out.cell 1;have a0:w2.cell? ⟨ab,0,none⟩=some (.int .i64 0):=HABW.out.cell 0;have ya:=HABW.out.frozen;have HUF:=qq (show Upd (fun k=>k=ab) w2 ((w2.setCell ⟨ab,1,none⟩ (.int .u64 x1)).setCell ⟨ab,0,none⟩ (.int .i64 x2)) from (((Upd.refl (fun k=>k=ab) w2).setIn rfl 1 (.int .u64 x1)).setIn rfl 0 (.int .i64 x2)));have HFF:=qq (HUF.out.fr (N:=N) (by rintro k rfl;exact HABW.out.mutb HNB.out rfl));have HBF:=qq (show Blk ((w2.setCell ⟨ab,1,none⟩ (.int .u64 x1)).setCell ⟨ab,0,none⟩ (.int .i64 x2)) ab 48 ({Ja.nil with n:=x1,err:=x2}:Ja).cells from ((HABW.out.set_ 1 (.int .u64 x1)).set_ 0 (.int .i64 x2)));go_wp2;go_ret;exact askFin (V:={Ja.nil with n:=x1,err:=x2}) (bb:=true) (HUA.out.no U2.out) HUF.out HBF.out (fun he=>(by rw [HX.out] at he;cases he)) fun An g1 he=>by
  rw [HX.out] at he;cases he;exact ⟨rfl,⟨rfl,rfl,rfl,rfl,rfl,rfl,Jg.nil none,SnV.Js _ _⟩,rfl⟩
theorem spAsk_8 (h:Ka N w l A B g) (hp:g.Pre) (ho:g.Ok) {v:Jc} {c:LCall} (hv:v.Rd N w c) (hc:c.Ok) (hfa:c.a<4611686018427387904) (hfb:c.b<4611686018427387904) (hfi:c.atI<4611686018427387904) (hb:Blk w ab 48 Ja.nil.cells) (hN:N≤ab) (hk:v.kind=8):
  Calls Tryz.prog 31 #[.pointer (some ⟨l,0,none⟩),.agg v.cells,.pointer (some ⟨ab,0,none⟩)] w fun e w'=>AskR N w ab (g.ask c) g e w':=by
 have hs:=hp.isSm;have hkc:c.kind=8:=hv.kind.symm.trans hk;have hva:=hv.a;have hvb:=hv.b;have hvf:=hv.flag;have hvt:=hv.atT;have hvi:=hv.atI;obtain ⟨wa,hwa⟩:∃W,w.alloc (.cells v.cells 45)=W:=⟨_,rfl⟩;have HUA:=qq (show Upd No w wa by rw [←hwa];exact (Upd.refl No w).alloc _);have HPB:=qq (show Blk wa w.heap.size 45 v.cells by rw [←hwa];exact Blk.new w _ _);have HSA:=qq (h.no HUA.out);have HAB:=qq (hb.upd HUA.out (fun h=>h));have HNB:=qq hN;have p0:wa.cell? ⟨w.heap.size,0,none⟩=some (.int .i64 8):=by rw [←hk];exact HPB.out.cell 0
 have p1:wa.cell? ⟨w.heap.size,1,none⟩=some (.int .u64 c.a):=by rw [←hva];exact HPB.out.cell 1
 have p2:wa.cell? ⟨w.heap.size,2,none⟩=some (.int .u64 c.b):=by rw [←hvb];exact HPB.out.cell 2
 have p4:wa.cell? ⟨w.heap.size,4,none⟩=some (.bool c.flag):=by rw [←hvf];exact HPB.out.cell 4
 have p5:wa.cell? ⟨w.heap.size,5,none⟩=some (.int .u64 c.atT):=by rw [←hvt];exact HPB.out.cell 5
 have p6:wa.cell? ⟨w.heap.size,6,none⟩=some (.int .u64 c.atI):=by rw [←hvi];exact HPB.out.cell 6
 have k1:wa.cell? ⟨l,1,none⟩=some (pp B.b):=HSA.out.c 1;have k0:wa.cell? ⟨l,0,none⟩=some (pp A.b):=HSA.out.c 0;have hX:g.ask c=(if c.a≤g.last then g.cut c.a (g.last+1) else some (LAns.none,g)):=by unfold LgL.ask;rw [if_neg (by omega),if_neg (by omega),if_neg (by omega),if_neg (by omega),if_neg (by omega),if_pos hkc]
 have HX:=qq hX;have hlb:=hs.last_bd;have hln:=hs.last_nn;have HL:=qq fun (n:Nat)=>spLast (HSA.out.drewN n) hs.s hs.u;have HL2:=qq fun (W:World) (hu:Upd No wa W)=>(spLast (HSA.out.no hu) hs.s hs.u).toU;have HC:=qq fun (W:World) (hu:Upd No wa W)=>spCut (lo:=c.a) (hi:=g.last+1) (HSA.out.no hu) hs ho (HAB.out.upd hu (fun h=>h)) hN;by_cases h1:c.a≤g.last
 ·have hd:decide (c.a≤g.last)=true:=decide_eq_true h1;rw [if_pos h1] at hX;have HX:=qq hX;rw [←hX] at HC;have hpa:=HPB.out.ne_ HAB.out (by decide);have jw:IntKind.u64.wrap (g.last+1)=g.last+1:=by simp [IntKind.wrap_u64];omega
  clear h1;clear h hp ho hs hX hv hc hb hkc hk hva hvb hvf hvt hvi hN;generalize g.last=la at*;go_enter Tryz.func31,Tryz.ntmps31;go_wp2_with fail
  go_quiet ((go_at_call 22;exact Ji (HL.out _)))
  obtain ⟨w2,hw2⟩:∃W,W=wa.drewN nq:=⟨_,rfl⟩;have U2:=qq (show Upd No wa w2 by rw [hw2];exact (Upd.refl No wa).drewN nq);rw [←hw2];clear hw2 hwa hd;have HPW:=qq fun (W:World) (hu:Upd No wa W)=>hu.cell p1 (fun h=>h);have s2:=HPW.out w2.drew U2.out.drew;clear p0 p1 p2 p4 p5 p6 k0 k1;go_wp2_with fail
  refine wp_region_held_drew (S:=(fun W=>W.cell? ⟨w.heap.size,1,none⟩=some (.int .u64 c.a))) (by kernel_rfl) (s2) (fun hHeld=>?_);refine td 0 117 rfl ?_ ?_ ?_;rotate_left 1
  ·intro w hS;go_simp;all_goals with_reducible rfl
  try simp only [NR]
  refine td 1 118 rfl ?_ ?_ ?_;rotate_left 1
  ·intro w hS;go_simp;all_goals with_reducible rfl
  try simp only [NR]
  refine td 2 119 rfl ?_ ?_ ?_;rotate_left 1
  ·intro w hS;go_simp;all_goals with_reducible rfl
  try simp only [NR]
  refine td 3 120 rfl ?_ ?_ ?_;rotate_left 1
  ·intro w hS;go_simp;all_goals with_reducible rfl
  try simp only [NR]
  refine td 6 123 rfl ?_ ?_ ?_;rotate_left 1
  ·intro w hS;go_simp;all_goals with_reducible rfl
  try simp only [NR]
  refine wpAnyH_ready (rs:=[4]) (by kernel_rfl) (by simp) ?_;refine AllReadyH.cons (o:=⟨some 121,_,_,_,_,_⟩) rfl (fun K hK=>?_) AllReadyH.nil;rw [if_pos (by rfl)];go_simp;refine (HL2.out _ U2.out.drew).mono ?_;rintro r w3 ⟨rfl,u3⟩;have U3:=qq (U2.out.drew.no u3);clear u3;go_wp2_with fail
  refine hK.out _ _ (HPW.out w3 U3.out) (fun hHeld=>?_);clear hK;try simp only [NR]
  refine td 5 122 rfl ?_ ?_ ?_;rotate_left 1
  ·intro w hS;go_simp;all_goals with_reducible rfl
  try simp only [NR]
  refine wpAnyH_ready (rs:=[7]) (by kernel_rfl) (by simp) ?_;refine AllReadyH.cons (o:=⟨some 124,_,_,_,_,_⟩) rfl (fun K hK=>?_) AllReadyH.nil;rw [if_pos (by rfl)];go_simp;refine (HC.out _ U3.out).mono ?_;intro r w4 hr;obtain ⟨V,bb,rfl,hb2,hu2,h1,h2⟩:=hr;have s4:w4.cell? ⟨w.heap.size,1,none⟩=some (.int .u64 c.a):=hu2.cell (HPW.out w3 U3.out) hpa;have H2:=qq (And.intro hb2 (And.intro hu2 (And.intro h1 h2)));clear hb2 hu2 h1 h2;go_wp2_with fail
  refine hK.out _ _ s4 (fun hHeld=>?_);clear hK;try simp only [NR]
  refine td 8 6 rfl ?_ ?_ ?_;rotate_left 1
  ·intro w hS;go_simp;all_goals with_reducible rfl
  try simp only [NR]
  refine wpAnyH_done (by kernel_rfl) ?_ _;go_wp2;go_ret;exact ⟨V,bb,rfl,H2.out.1,(HUA.out.no U3.out).ofNo.Ke H2.out.2.1,H2.out.2.2.1,H2.out.2.2.2⟩
 ·have hd:decide (c.a≤g.last)=false:=decide_eq_false h1;rw [if_neg h1] at hX;clear HX;have HX:=qq hX;clear h1;clear h hp ho hs hX hv hc hb hkc hk hva hvb hvf hvt hvi hN;generalize g.last=la at*;go_enter Tryz.func31,Tryz.ntmps31;go_wp2_with fail
  go_quiet ((go_at_call 22;exact Ji (HL.out _)))
  go_wp2;go_ret;exact askFin (V:=Ja.nil) (bb:=true) (HUA.out.drewN _) (Upd.refl _ _) (HAB.out.drewN _) (fun he=>by rw [HX.out] at he;cases he) fun An g1 he=>by
   rw [HX.out] at he;cases he;exact ⟨rfl,Ja.Js _ _,rfl⟩
theorem spAsk_9 (h:Ka N w l A B g) (hp:g.Pre) (ho:g.Ok) {v:Jc} {c:LCall} (hv:v.Rd N w c) (hc:c.Ok) (hfa:c.a<4611686018427387904) (hfb:c.b<4611686018427387904) (hfi:c.atI<4611686018427387904) (hb:Blk w ab 48 Ja.nil.cells) (hN:N≤ab) (hk:v.kind=9):
  Calls Tryz.prog 31 #[.pointer (some ⟨l,0,none⟩),.agg v.cells,.pointer (some ⟨ab,0,none⟩)] w fun e w'=>AskR N w ab (g.ask c) g e w':=by
 have hs:=hp.isSm;have hkc:c.kind=9:=hv.kind.symm.trans hk;have hva:=hv.a;have hvb:=hv.b;have hvf:=hv.flag;have hvt:=hv.atT;have hvi:=hv.atI;obtain ⟨wa,hwa⟩:∃W,w.alloc (.cells v.cells 45)=W:=⟨_,rfl⟩;have HUA:=qq (show Upd No w wa by rw [←hwa];exact (Upd.refl No w).alloc _);have HPB:=qq (show Blk wa w.heap.size 45 v.cells by rw [←hwa];exact Blk.new w _ _);have HSA:=qq (h.no HUA.out);have HAB:=qq (hb.upd HUA.out (fun h=>h));have HNB:=qq hN;have p0:wa.cell? ⟨w.heap.size,0,none⟩=some (.int .i64 9):=by rw [←hk];exact HPB.out.cell 0
 have p1:wa.cell? ⟨w.heap.size,1,none⟩=some (.int .u64 c.a):=by rw [←hva];exact HPB.out.cell 1
 have p2:wa.cell? ⟨w.heap.size,2,none⟩=some (.int .u64 c.b):=by rw [←hvb];exact HPB.out.cell 2
 have p4:wa.cell? ⟨w.heap.size,4,none⟩=some (.bool c.flag):=by rw [←hvf];exact HPB.out.cell 4
 have p5:wa.cell? ⟨w.heap.size,5,none⟩=some (.int .u64 c.atT):=by rw [←hvt];exact HPB.out.cell 5
 have p6:wa.cell? ⟨w.heap.size,6,none⟩=some (.int .u64 c.atI):=by rw [←hvi];exact HPB.out.cell 6
 have k1:wa.cell? ⟨l,1,none⟩=some (pp B.b):=HSA.out.c 1;have k0:wa.cell? ⟨l,0,none⟩=some (pp A.b):=HSA.out.c 0;have hX:g.ask c=g.cut c.a c.b:=by unfold LgL.ask;rw [if_neg (by omega),if_neg (by omega),if_neg (by omega),if_neg (by omega),if_neg (by omega),if_neg (by omega),if_pos hkc]
 have HX:=qq hX;have HF:=qq (spCut (lo:=c.a) (hi:=c.b) HSA.out hs ho HAB.out hN);rw [←hX] at HF;clear h hp ho hs hX hv hc hb hkc hk hva hvb hvf hvt hvi hN;go_enter Tryz.func31,Tryz.ntmps31;go_wp2_with fail
 refine HF.out.mono ?_;intro r w2 hr;obtain ⟨V,bb,rfl,hb2,hu2,h1,h2⟩:=hr;have H2:=qq (And.intro hb2 (And.intro hu2 (And.intro h1 h2)));clear hb2 hu2 h1 h2;go_wp2;go_ret;exact ⟨V,bb,rfl,H2.out.1,HUA.out.ofNo.Ke H2.out.2.1,H2.out.2.2.1,H2.out.2.2.2⟩
end
end Go.Proofs.YtmagnkjodjmojaaGreat
