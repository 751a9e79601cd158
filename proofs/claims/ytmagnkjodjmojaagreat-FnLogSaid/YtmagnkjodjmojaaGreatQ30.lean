/- A part of the proof of FnLog: laws and walks, with their conditions written at each. -/
import Derived.Test.YtmagnkjodjmojaaGreatQ29
set_option maxRecDepth 20000
set_option maxHeartbeats 4000000
set_option linter.all false
namespace Go.Proofs.YtmagnkjodjmojaaGreat
open Go.RowKit
theorem Jd.inf (v:Jd):(Tryz.prog.info? 43).map (·.size)=some v.cells.size:=(by kernel_rfl:(Tryz.prog.info? 43).map (·.size)=some 16)
theorem inf39:(Tryz.prog.info? 39).map (·.size)=some 8:=by kernel_rfl
theorem Kc {P:Program} {ops:Array Oper} {rest:List Oper} {op:Oper} {a:Act} {w:World} {Q:Exit→Act→World→Prop} (hgd:op.guard=none) (ty:TypeId) (x y:Operand) (ho:op.op=.store ty x y)
  (b o:Nat) (cells:Array Value) (hx:a.eval x=.pointer (some ⟨b,o,none⟩)) (hy:a.eval y=.agg cells) (t:TypeId) (old new:Array Value) (hB:Blk w b t old) (hnew:∀W,Blk W b t old→Blk (W.setCells b o cells.toList) b t new)
  (hle:o+cells.size≤old.size) (hi:(P.info? ty).map (·.size)=some cells.size) (h1:cells.all (·.oneCell')=true)
  (h:∀w',Blk w' b t new→Upd (fun k=>k=b) w w'→wpList P ops Q rest (a.put op.dst undef) w'):wpList P ops Q (op::rest) a w:=
 wpList_store_mid hgd ty x y ho b o cells hx hy (fun j hj=>⟨by rw [hB.cell,Array.getElem?_eq_getElem (by omega)];rfl,hB.frozen _⟩) hi h1 (h _ (hnew w hB) (upd_setCells _ _ _))
section
variable {N:Nat} {w w':World} {S:Nat→Prop} {I:StK} {s:StL} {B:TlK} {u:TlL} {l:Nat} {g:LgL}
theorem StDoR.fin {X:Option (SAns×StL)} {wN w9:World} {I':StK} {s1:StL} {V:Jb} {bb:Bool} {cs:Array Value} (hIlt:I.b<w.heap.size) (hNw:N≤w.heap.size) (HUN:Upd (fun k=>k=I.b) w wN) (hIb:I'.b=I.b) (hS:Kb N wN I' s1)
  (hbr:Blk wN (w.heap.size+1) 69 cs) (hu9:Upd (fun k=>k=w.heap.size+1) wN w9) (h1:X=none→bb=false) (h2:∀An s',X=some (An,s')→bb=true∧V.Rd N wN An∧s'=s1):
  StDoR N w X I s (.returned (.tuple #[.agg V.cells,.bool bb])) w9:=by
 have hf9:=hu9.fr (N:=N) (by rintro k rfl;exact hbr.mutb (by omega) rfl);exact ⟨V,bb,I',s1,rfl,hIb,hS.upd hu9 hf9 (by rw [hIb];omega),HUN.trans hu9 (by rintro k rfl;exact .inr (Nat.le_succ _)),h1,fun An s' he=>⟨(h2 An s' he).1,(h2 An s' he).2.1.fr hf9,(h2 An s' he).2.2⟩⟩
theorem spStDo_1 (h:Kb N w I s) (hs:s.Sm) {v:Jd} {c:SCall} (hv:v.Rd N w c) (hc:c.Ok) (hk:v.kind=1):
  Calls Tryz.prog 19 #[.pointer (some ⟨I.b,0,none⟩),.agg v.cells] w fun e w'=>StDoR N w (SDo s c) I s e w':=by
 have hi0:=hs.i0;have hi1:=hs.i1;have hLl:=hs.len;have hls:s.last=s.atI+s.L.length:=rfl;have HNW:=qq (Nat.le_trans h.N (Nat.le_of_lt h.blk.lt));have HIB:=qq h.blk.lt;have hva:=hv.a;have hvb:=hv.b;have hkc:c.kind=1:=hv.kind.symm.trans hk;have hca0:=hc.a0;have hca1:=hc.a1;obtain ⟨wa,hwa⟩:∃W,((w.alloc (.cells v.cells 43)).alloc (.cells (Z69 0 0) 69)).alloc (.cells (Z69 0 0) 69)=W:=⟨_,rfl⟩;have HUA:=qq (show Upd No w wa by rw [←hwa];exact (((Upd.refl No w).alloc _).alloc _).alloc _);have HPB:=qq (show Blk wa w.heap.size 43 v.cells by rw [←hwa];exact ((Blk.new w _ _).alloc _).alloc _);have HRB:=qq (show Blk wa (w.heap.size+1) 69 Jb.nil.cells by rw [←hwa];exact (Blk.new_ (by simp)).alloc _);have HAB:=qq (show Blk wa (w.heap.size+1+1) 69 Jb.nil.cells by rw [←hwa];exact Blk.new_ (by simp));have HSA:=qq (h.no HUA.out);have p0:wa.cell? ⟨w.heap.size,0,none⟩=some (.int .i64 1):=by rw [←hk];exact HPB.out.cell 0
 have p1:wa.cell? ⟨w.heap.size,1,none⟩=some (.int .u64 c.a):=by rw [←hva];exact HPB.out.cell 1
 have HVS:=qq (hv.sn.fr HUA.out.fr0);have hX:SDo s c=((s.append c.es).map fun s'=>(SAns.none,s')):=by unfold SDo;rw [if_pos hkc]
 have HX:=qq hX;have HF:=qq fun (W:World) (hu:Upd No wa W)=>spStAppend (HSA.out.no hu) hs ((hv.es.fr HUA.out.fr0).fr hu.fr0) hc.es (by have:=hc.len;omega);have HP4:=qq fun (W:World) (hu:Upd (fun j=>j=I.b) wa W)=>(show W.cell? ⟨w.heap.size,4,none⟩=some v.es.v from (HPB.out.upd hu (by have:=HIB.out;omega)).cell 4);have HA5:=qq fun (W:World) (hu:Upd (fun j=>j=I.b) wa W)=>(show Blk W (w.heap.size+1+1) 69 (Z69 0 0) from HAB.out.upd hu (by have:=HIB.out;omega));have HR5:=qq fun (W:World) (hu:Upd (fun j=>j=I.b) wa W)=>HRB.out.upd hu (show ¬w.heap.size+1=I.b by have:=HIB.out;omega);have HD:=qq (show Upd (fun j=>j=I.b) wa wa.drew from (Upd.refl _ _).drew);have HD0:=qq (show Upd No wa wa.drew from (Upd.refl _ _).drew);have s0:=HP4.out wa.drew HD.out;have HAI:=qq (show (Tryz.prog.info? 69).map (·.size)=some ((Z69 0 0):Array Value).size from inf69);have HAO:=qq (show ((Z69 0 0):Array Value).all (·.oneCell')=true by simp [Value.oneCell']);clear h hs hX hls hva hvb hv hc hkc hk;go_enter Tryz.func19,Tryz.ntmps19;go_wp2_with fail
 refine wp_region_held_drew (S:=(fun W=>W.cell? ⟨w.heap.size,4,none⟩=some v.es.v)) (by kernel_rfl) (s0) (fun hHeld=>?_);refine td 1 14 rfl ?_ ?_ ?_;rotate_left 1
 ·intro w hS;go_simp;all_goals with_reducible rfl
 try simp only [NR]
 refine td 2 15 rfl ?_ ?_ ?_;rotate_left 1
 ·intro w hS;go_simp;all_goals with_reducible rfl
 try simp only [NR]
 refine td 3 16 rfl ?_ ?_ ?_;rotate_left 1
 ·intro w hS;go_simp;all_goals with_reducible rfl
 try simp only [NR]
 refine wpAnyH_ready (rs:=[0,4]) (by kernel_rfl) (by simp) ?_;refine AllReadyH.cons (o:=⟨some 13,_,_,_,_,_⟩) rfl (fun K hK=>?_) ?_;focus
  first
   |(with_reducible refine step_load_blk rfl 69 (.tmp 6) rfl (w.heap.size+1+1) (Z69 0 0) rfl 69 _ (HA5.out w5 HU5.out) Tryz.underlying69 rfl HAI.out ?_)
   |(with_reducible refine step_load_blk rfl 69 (.tmp 6) rfl (w.heap.size+1+1) (Z69 0 0) rfl 69 _ (HA5.out wa.drew HD.out) Tryz.underlying69 rfl HAI.out ?_)
  refine hK.out _ _ hHeld (fun hHeld=>?_);clear hK;try simp only [NR]
  refine wpAnyH_ready (rs:=[4]) (by kernel_rfl) (by simp) ?_;refine AllReadyH.cons (o:=⟨some 17,_,_,_,_,_⟩) rfl (fun K hK=>?_) AllReadyH.nil;rw [if_pos (by rfl)];go_simp;refine (HF.out _ HD0.out).mono ?_;rintro r w5 ⟨rfl,⟨I5,hI5,hS5⟩,hu5⟩;have HS5:=qq hS5;have HI5:=qq hI5;have HU5:=qq (HD.out.Ke hu5);clear hS5 hI5 hu5;go_wp2_with fail
  refine hK.out _ _ (HP4.out _ HU5.out) (fun hHeld=>?_);clear hK;try simp only [NR]
  refine wpAnyH_ready (rs:=[5]) (by kernel_rfl) (by simp) ?_;refine AllReadyH.cons (o:=⟨none,_,_,_,_,_⟩) rfl (fun K hK=>?_) AllReadyH.nil;with_reducible refine step_store_blk rfl 69 (.tmp 4) (.tmp 13) rfl (w.heap.size+1) (Z69 0 0) rfl rfl 69 Jb.nil.cells (HR5.out w5 HU5.out) HAI.out rfl HAO.out ?_;intro w9 hb9 hu9;have HB9:=qq hb9;have HU9:=qq hu9;have s9:w9.cell? ⟨w.heap.size,4,none⟩=some v.es.v:=hu9.cell (HP4.out _ HU5.out) (by omega);clear hb9 hu9;refine hK.out _ _ s9 (fun hHeld=>?_);clear hK;try simp only [NR]
  refine td 6 5 rfl ?_ ?_ ?_;rotate_left 1
  ·intro w hS;go_simp;all_goals with_reducible rfl
  try simp only [NR]
  refine wpAnyH_done (by kernel_rfl) ?_ _
 rotate_left 1;refine AllReadyH.cons (o:=⟨some 17,_,_,_,_,_⟩) rfl (fun K hK=>?_) AllReadyH.nil;rw [if_pos (by rfl)];go_simp;refine (HF.out _ HD0.out).mono ?_;rintro r w5 ⟨rfl,⟨I5,hI5,hS5⟩,hu5⟩;have HS5:=qq hS5;have HI5:=qq hI5;have HU5:=qq (HD.out.Ke hu5);clear hS5 hI5 hu5;go_wp2_with fail
 refine hK.out _ _ (HP4.out _ HU5.out) (fun hHeld=>?_);clear hK;try simp only [NR]
 refine wpAnyH_ready (rs:=[0]) (by kernel_rfl) (by simp) ?_;refine AllReadyH.cons (o:=⟨some 13,_,_,_,_,_⟩) rfl (fun K hK=>?_) AllReadyH.nil;first
  |(with_reducible refine step_load_blk rfl 69 (.tmp 6) rfl (w.heap.size+1+1) (Z69 0 0) rfl 69 _ (HA5.out w5 HU5.out) Tryz.underlying69 rfl HAI.out ?_)
  |(with_reducible refine step_load_blk rfl 69 (.tmp 6) rfl (w.heap.size+1+1) (Z69 0 0) rfl 69 _ (HA5.out wa.drew HD.out) Tryz.underlying69 rfl HAI.out ?_)
 refine hK.out _ _ hHeld (fun hHeld=>?_);clear hK;try simp only [NR]
 refine wpAnyH_ready (rs:=[5]) (by kernel_rfl) (by simp) ?_;refine AllReadyH.cons (o:=⟨none,_,_,_,_,_⟩) rfl (fun K hK=>?_) AllReadyH.nil;with_reducible refine step_store_blk rfl 69 (.tmp 4) (.tmp 13) rfl (w.heap.size+1) (Z69 0 0) rfl rfl 69 Jb.nil.cells (HR5.out w5 HU5.out) HAI.out rfl HAO.out ?_;intro w9 hb9 hu9;have HB9:=qq hb9;have HU9:=qq hu9;have s9:w9.cell? ⟨w.heap.size,4,none⟩=some v.es.v:=hu9.cell (HP4.out _ HU5.out) (by omega);clear hb9 hu9;refine hK.out _ _ s9 (fun hHeld=>?_);clear hK;try simp only [NR]
 refine td 6 5 rfl ?_ ?_ ?_;rotate_left 1
 ·intro w hS;go_simp;all_goals with_reducible rfl
 try simp only [NR]
 refine wpAnyH_done (by kernel_rfl) ?_ _;all_goals
  go_wp2;refine Jw rfl (w.heap.size+1) 69 (Z69 0 0) _ rfl HB9.out Tryz.underlying69 rfl HAI.out rfl ?_;refine StDoR.fin (V:=Jb.nil) (bb:=(s.append c.es).isSome) HIB.out HNW.out (HUA.out.ofNo.Ke HU5.out) HI5.out HS5.out (HR5.out w5 HU5.out) HU9.out (fun he=>?_) fun An s' he=>?_
  ·rw [HX.out] at he;cases hz:s.append c.es with
   |none=>rfl
   |some s1=>rw [hz] at he;cases he
  ·rw [HX.out] at he;cases hz:s.append c.es with
   |none=>rw [hz] at he;cases he
   |some s1=>rw [hz] at he;cases he;exact ⟨rfl,Jb.Js _ _,rfl⟩
theorem spStDo_2 (h:Kb N w I s) (hs:s.Sm) {v:Jd} {c:SCall} (hv:v.Rd N w c) (hc:c.Ok) (hk:v.kind=2):
  Calls Tryz.prog 19 #[.pointer (some ⟨I.b,0,none⟩),.agg v.cells] w fun e w'=>StDoR N w (SDo s c) I s e w':=by
 have hi0:=hs.i0;have hi1:=hs.i1;have hLl:=hs.len;have hls:s.last=s.atI+s.L.length:=rfl;have HNW:=qq (Nat.le_trans h.N (Nat.le_of_lt h.blk.lt));have HIB:=qq h.blk.lt;have hva:=hv.a;have hvb:=hv.b;have hkc:c.kind=2:=hv.kind.symm.trans hk;have hca0:=hc.a0;have hca1:=hc.a1;obtain ⟨wa,hwa⟩:∃W,((w.alloc (.cells v.cells 43)).alloc (.cells (Z69 0 0) 69)).alloc (.cells (Z69 0 0) 69)=W:=⟨_,rfl⟩;have HUA:=qq (show Upd No w wa by rw [←hwa];exact (((Upd.refl No w).alloc _).alloc _).alloc _);have HPB:=qq (show Blk wa w.heap.size 43 v.cells by rw [←hwa];exact ((Blk.new w _ _).alloc _).alloc _);have HRB:=qq (show Blk wa (w.heap.size+1) 69 Jb.nil.cells by rw [←hwa];exact (Blk.new_ (by simp)).alloc _);have HAB:=qq (show Blk wa (w.heap.size+1+1) 69 Jb.nil.cells by rw [←hwa];exact Blk.new_ (by simp));have HSA:=qq (h.no HUA.out);have p0:wa.cell? ⟨w.heap.size,0,none⟩=some (.int .i64 2):=by rw [←hk];exact HPB.out.cell 0
 have p1:wa.cell? ⟨w.heap.size,1,none⟩=some (.int .u64 c.a):=by rw [←hva];exact HPB.out.cell 1
 have HVS:=qq (hv.sn.fr HUA.out.fr0);have HVA:=qq hva;have hXX:SDo s c=s.compact c.a:=by unfold SDo;rw [if_neg (by omega),if_pos hkc]
 have hatt:s.atI≤s.atI:=Int.le_refl _;clear hatt;have c13:wa.cell? ⟨I.b,13,none⟩=some (.int .u64 s.atI):=HSA.out.c 13;have HAI:=qq (show (Tryz.prog.info? 69).map (·.size)=some ((Z69 0 0):Array Value).size from inf69);have HAO:=qq (show ((Z69 0 0):Array Value).all (·.oneCell')=true by simp [Value.oneCell']);have HEI:=qq (show (Tryz.prog.info? 69).map (·.size)=some ((Z69 1 0):Array Value).size from inf69);have HEO:=qq (show ((Z69 1 0):Array Value).all (·.oneCell')=true by simp [Value.oneCell']);by_cases h1:c.a≤s.atI
 ·have hX:SDo s c=some ({SAns.none with err:=1},s):=by rw [hXX];unfold StL.compact;rw [if_pos h1]
  have HX:=qq hX;have hd:decide (c.a≤s.atI)=true:=decide_eq_true h1;clear h1 hXX;clear h hs hX hls hva hvb hv hc hkc hk;go_enter Tryz.func19,Tryz.ntmps19;go_wp2_with fail
  go_quiet (fail)
  obtain ⟨w2,hw2⟩:∃W,W=wa.drewN nq:=⟨_,rfl⟩;have U2:=qq (show Upd No wa w2 by rw [hw2];exact (Upd.refl No wa).drewN nq);rw [←hw2];have HAB2:=qq (HAB.out.upd U2.out (fun h=>h));have HRB2:=qq (HRB.out.upd U2.out (fun h=>h));clear hw2 p0 p1 c13 hwa;have a0:w2.cell? ⟨w.heap.size+1+1,0,none⟩=some (.int .i64 0):=HAB2.out.cell 0;have ya:=HAB2.out.frozen;have HAS:=qq (show Blk (w2.setCell ⟨w.heap.size+1+1,0,none⟩ (.int .i64 1)) (w.heap.size+1+1) 69 (Z69 1 0) from HAB2.out.set_ 0 _);have HUS:=qq (show Upd (fun j=>j=w.heap.size+1+1) w2 (w2.setCell ⟨w.heap.size+1+1,0,none⟩ (.int .i64 1)) from (Upd.refl (fun j=>j=w.heap.size+1+1) w2).setIn rfl 0 _);have HRS:=qq (HRB2.out.upd HUS.out (by omega));have HFS:=qq (HUS.out.fr (N:=N) (by rintro j rfl;exact HAB2.out.mutb (by have:=HNW.out;omega) rfl))
  go_wp2_with (first
   |(with_reducible refine Jm rfl 69 (.tmp 6) rfl (w.heap.size+1+1) (Z69 1 0) rfl 69 _ HAS.out Tryz.underlying69 rfl HEI.out ?_)
   |(with_reducible refine Jk rfl 69 (.tmp 4) (.tmp 29) rfl (w.heap.size+1) (Z69 1 0) rfl rfl 69 Jb.nil.cells HRS.out HEI.out rfl HEO.out ?_
     intro w9 hb9 hu9;have HB9:=qq hb9;have HU9:=qq hu9
     clear hb9 hu9)
   |fail)
  refine Jw rfl (w.heap.size+1) 69 (Z69 1 0) _ rfl HB9.out Tryz.underlying69 rfl HEI.out rfl ?_;exact StDoR.fin (V:={Jb.nil with err:=1}) (bb:=true) HIB.out HNW.out (((HUA.out.no U2.out).ofNo).trans HUS.out (by rintro j rfl;exact .inr (by omega))) rfl ((HSA.out.no U2.out).upd HUS.out HFS.out (by have:=HIB.out;omega)) HRS.out HU9.out (fun he=>(by rw [HX.out] at he;cases he)) fun An s' he=>by
   rw [HX.out] at he;cases he;exact ⟨rfl,⟨rfl,rfl,Jg.nil none,SnV.Js _ _⟩,rfl⟩
 ·have hd:decide (c.a≤s.atI)=false:=decide_eq_false h1;by_cases h2:s.last<c.a
  ·have hX:SDo s c=none:=by rw [hXX];unfold StL.compact;rw [if_neg h1,if_pos h2]
   have HX:=qq hX;have hd2:decide (s.last<c.a)=true:=decide_eq_true h2;have HL:=qq fun (W:World) (hu:Upd No wa W)=>spStLast (HSA.out.no hu) hs;clear h1 h2 hXX;clear h hs hX hls hva hvb hv hc hkc hk;generalize s.last=la at*;go_enter Tryz.func19,Tryz.ntmps19;go_wp2_with fail
   go_quiet (fail)
   obtain ⟨w2,hw2⟩:∃W,W=wa.drewN nq:=⟨_,rfl⟩;have U2:=qq (show Upd No wa w2 by rw [hw2];exact (Upd.refl No wa).drewN nq);rw [←hw2];have HAB2:=qq (HAB.out.upd U2.out (fun h=>h));have HRB2:=qq (HRB.out.upd U2.out (fun h=>h));clear hw2 p0 p1 c13 hwa;have p1:w2.cell? ⟨w.heap.size,1,none⟩=some (.int .u64 c.a):=by rw [←HVA.out];exact (HPB.out.upd U2.out (fun h=>h)).cell 1
   go_wp2_with fail
   go_quiet ((go_at_call 32;exact Ji (HL.out _ (U2.out.drewN _))))
   have U3:=qq (U2.out.drewN nq);have HAB3:=qq (show Blk (w2.drewN nq) (w.heap.size+1+1) 69 (Z69 0 0) from HAB.out.upd U3.out (fun h=>h));have HRB3:=qq (HRB.out.upd U3.out (fun h=>h))
   go_wp2_with (first
    |(with_reducible refine Jm rfl 69 (.tmp 6) rfl (w.heap.size+1+1) (Z69 0 0) rfl 69 _ HAB3.out Tryz.underlying69 rfl HAI.out ?_)
    |(with_reducible refine Jk rfl 69 (.tmp 4) (.tmp 35) rfl (w.heap.size+1) (Z69 0 0) rfl rfl 69 Jb.nil.cells HRB3.out HAI.out rfl HAO.out ?_
      intro w9 hb9 hu9;have HB9:=qq hb9;have HU9:=qq hu9
      clear hb9 hu9)
    |fail)
   refine Jw rfl (w.heap.size+1) 69 (Z69 0 0) _ rfl HB9.out Tryz.underlying69 rfl HAI.out rfl ?_;exact StDoR.fin (V:=Jb.nil) (bb:=false) HIB.out HNW.out (HUA.out.no U3.out).ofNo rfl (HSA.out.no U3.out) HRB3.out HU9.out (fun he=>rfl) fun An s' he=>by rw [HX.out] at he;cases he
  ·obtain ⟨k,hkk⟩:=Int.eq_ofNat_of_zero_le (show 0≤c.a - s.atI by omega);have hX:SDo s c=some (SAns.none,{s with L:=s.L.drop k,atT:=(s.term c.a).1,atI:=c.a}):=by rw [hXX];unfold StL.compact;rw [if_neg h1,if_neg h2,hkk,Int.toNat_natCast]
   have HX:=qq hX;have hd2:decide (s.last<c.a)=false:=decide_eq_false h2;have HL:=qq fun (W:World) (hu:Upd No wa W)=>spStLast (HSA.out.no hu) hs;have HT:=qq fun (W:World) (hu:Upd No wa W)=>(spStTerm (HSA.out.no hu) hs hca0 hca1).toU;have hle:=h.L.len;have hkn:k≤I.L.n:=by omega
   have hkc2:k≤I.L.c:=Nat.le_trans hkn h.L.cap;have hn2:I.L.n≤100000:=by omega
   have j4:IntKind.u64.wrap (c.a - s.atI)=(k:Int):=by rw [hkk];simp [IntKind.wrap_u64];omega
   obtain ⟨X,hXt⟩:∃X,(if I.L.c=k then I.L.A else Option.map (fun x=>x.add (k*4)) I.L.A)=X:=⟨_,rfl⟩;clear h1 h2 hXX hle hkk;clear h hs hX hls hva hvb hv hc hkc hk;generalize s.last=la at*;generalize s.term c.a=tt at*;obtain ⟨t1,t2⟩:=tt;simp only at HT HX;go_enter Tryz.func19,Tryz.ntmps19;go_wp2_with fail
   go_quiet (fail)
   obtain ⟨w2,hw2⟩:∃W,W=wa.drewN nq:=⟨_,rfl⟩;have U2:=qq (show Upd No wa w2 by rw [hw2];exact (Upd.refl No wa).drewN nq);rw [←hw2];have HAB2:=qq (HAB.out.upd U2.out (fun h=>h));have HRB2:=qq (HRB.out.upd U2.out (fun h=>h));clear hw2 p0 p1 c13 hwa;have p1:w2.cell? ⟨w.heap.size,1,none⟩=some (.int .u64 c.a):=by rw [←HVA.out];exact (HPB.out.upd U2.out (fun h=>h)).cell 1
   go_wp2_with fail
   go_quiet ((go_at_call 32;exact Ji (HL.out _ (U2.out.drewN _))))
   have U2':=qq (U2.out.drewN nq);have p1:(w2.drewN nq).cell? ⟨w.heap.size,1,none⟩=some (.int .u64 c.a):=p1;go_wp2_with fail
   refine (HT.out _ U2'.out).mono ?_;rintro r w3 ⟨rfl,u3⟩;have U3:=qq (U2'.out.no u3);clear u3 p1 HRB2 HAB2 hd hd2;have HSP3:=qq (HSA.out.no U3.out)
   have HSS:=qq fun (W:World) (hu:Upd (fun j=>w3.heap.size≤j) w3 W)=>(show W.cell? ⟨w.heap.size,1,none⟩=some (.int .u64 c.a)∧W.cell? ⟨I.b,13,none⟩=some (.int .u64 s.atI)∧W.frozen? ⟨I.b,14,none⟩=false from
    ⟨by rw [←HVA.out];exact ((HPB.out.upd U3.out (fun h=>h)).upd hu (by have:=(HPB.out.upd U3.out (fun h=>h)).lt;omega)).cell 1,(HSP3.out.blk.upd hu (by have:=HSP3.out.blk.lt;omega)).cell 13,(HSP3.out.blk.upd hu (by have:=HSP3.out.blk.lt;omega)).frozen 14⟩)
   have HS14:=qq fun (W:World) (hu:Upd (fun j=>w3.heap.size≤j) w3 W)=>(show W.cell? ⟨I.b,14,none⟩=some I.L.v from (HSP3.out.blk.upd hu (by have:=HSP3.out.blk.lt;omega)).cell 14);have HKd:=qq (HSS.out w3.drew (Upd.refl _ _).drew);have HKa:=qq fun (o:Obj)=>HSS.out ((w3.alloc o).drew) (((Upd.refl _ w3).alloc o).drew);have d14:w3.cell? ⟨I.b,14,none⟩=some I.L.v:=HS14.out w3 (Upd.refl _ _);have da14:∀o,(w3.alloc o).cell? ⟨I.b,14,none⟩=some I.L.v:=fun o=>HS14.out _ ((Upd.refl _ w3).alloc o);have HBK:=qq (show ∀o,Upd (fun j=>w3.heap.size≤j) w3 ((w3.alloc o).drew) from fun o=>(((Upd.refl _ w3).alloc o).drew));have HOW:=qq (own_empty (W:=(w3.alloc (.cells #[] 104)).drew) (base:=w3.heap.size) (Blk.new w3 104 #[]) (Nat.le_refl _));have HRD:=qq (show Jh N ((w3.alloc (.cells #[] 104)).drew) ⟨X,I.L.n - k,I.L.c - k⟩ (s.L.drop k) by rw [←hXt];exact (HSP3.out.L.dropS hkn).fr ((((Upd.refl No w3).alloc _).drew).fr0));have HN400:=qq (show 0+(⟨X,I.L.n - k,I.L.c - k⟩:SlV).n≤400000 by simp only;omega);have HZ2:=qq (show w3.heap.size≤((w3.alloc (.cells #[] 104)).drew).heap.size by show w3.heap.size≤(w3.alloc (.cells #[] 104)).heap.size;simp);go_wp2_with fail
   refine wp_region_held_drew (S:=(fun W=>W.cell? ⟨w.heap.size,1,none⟩=some (.int .u64 c.a)∧W.cell? ⟨I.b,13,none⟩=some (.int .u64 s.atI)∧W.frozen? ⟨I.b,14,none⟩=false)) (by kernel_rfl) (HKd.out) (fun hHeld=>?_);refine tk 0 rfl ?_ ?_ ?_;rotate_left 1
   ·intro w hS;go_simp;all_goals with_reducible rfl
   try simp only [NR]
   refine tk 2 rfl ?_ ?_ ?_;rotate_left 1
   ·intro w hS;go_simp;all_goals with_reducible rfl
   try simp only [NR]
   refine tk 3 rfl ?_ ?_ ?_;rotate_left 1
   ·intro w hS;go_simp;all_goals with_reducible rfl
   try simp only [NR]
   refine tk 4 rfl ?_ ?_ ?_;rotate_left 1
   ·intro w hS;go_simp;all_goals with_reducible rfl
   try simp only [NR]
   refine tk 6 rfl ?_ ?_ ?_;rotate_left 1
   ·intro w hS;go_simp;all_goals with_reducible rfl
   try simp only [NR]
   refine tk 7 rfl ?_ ?_ ?_;rotate_left 1
   ·intro w hS;go_simp;all_goals with_reducible rfl
   try simp only [NR]
   refine tk 8 rfl ?_ ?_ ?_;rotate_left 1
   ·intro w hS;go_simp;all_goals with_reducible rfl
   try simp only [NR]
   refine tk 9 rfl ?_ ?_ ?_;rotate_left 1
   ·intro w hS;go_simp;all_goals with_reducible rfl
   try simp only [NR]
   refine tk 10 rfl ?_ ?_ ?_;rotate_left 1
   ·intro w hS;go_simp;all_goals with_reducible rfl
   try simp only [NR]
   refine tk 11 rfl ?_ ?_ ?_;rotate_left 1
   ·intro w hS;go_simp;all_goals with_reducible rfl
   try simp only [NR]
   refine tk 12 rfl ?_ ?_ ?_;rotate_left 1
   ·intro w hS;go_simp;all_goals with_reducible rfl
   try simp only [NR]
   refine tk 13 rfl ?_ ?_ ?_;rotate_left 1
   ·intro w hS;go_simp;all_goals with_reducible rfl
   try simp only [NR]
   refine wpAnyH_ready (rs:=[1,5]) (by kernel_rfl) (by simp) ?_;refine AllReadyH.cons (o:=_) rfl (fun K hK=>?_) ?_;focus
    rw [if_pos (by rfl)];go_simp;refine hK.out _ _ (HKa.out _) (fun hHeld=>?_);clear hK;try simp only [NR]
    refine wpAnyH_ready (rs:=[5]) (by kernel_rfl) (by simp) ?_;refine ac rfl fun K hK=>?_;rw [if_pos (by rfl)];go_simp;refine hK.out _ _ (hHeld) (fun hHeld=>?_);clear hK;try simp only [NR]
    refine tk 14 rfl ?_ ?_ ?_;rotate_left 1
    ·intro w hS;go_simp;all_goals with_reducible rfl
    try simp only [NR]
    refine wpAnyH_ready (rs:=[15]) (by kernel_rfl) (by simp) ?_;refine ac rfl fun K hK=>?_;refine step_app_ents rfl (.tmp 44) (.tmp 57) rfl w3.heap.size (.slice (some ⟨w3.heap.size,0,none⟩) 0 0) 0 [] rfl HOW.out ⟨X,I.L.n - k,I.L.c - k⟩ (s.L.drop k) rfl HRD.out HN400.out HZ2.out ?_;intro v9 w9 hown9 hu9 hv9;obtain ⟨s9,rfl,hn9,hr9,_⟩:=own_ents hown9 N;have HU9:=qq (show Upd (fun j=>w3.heap.size≤j) w3 w9 from (HBK.out _).trans hu9 (fun j hj=>.inl (by injection hj with hj;exact Nat.le_of_eq hj)));have HK10:=qq (HSS.out w9 HU9.out);have HB9:=qq (HSP3.out.blk.upd HU9.out (by have:=HSP3.out.blk.lt;omega))
    have HK11:=qq fun (x:Value)=>(show (w9.setCell ⟨I.b,14,none⟩ x).cell? ⟨w.heap.size,1,none⟩=some (.int .u64 c.a)∧(w9.setCell ⟨I.b,14,none⟩ x).cell? ⟨I.b,13,none⟩=some (.int .u64 s.atI)∧(w9.setCell ⟨I.b,14,none⟩ x).frozen? ⟨I.b,14,none⟩=false from
     have hu:=(Upd.refl (fun j=>j=I.b) w9).setIn rfl 14 x
     ⟨hu.cell HK10.out.1 (by have:=HIB.out;omega),(HB9.out.set_ 14 x).cell 13,(HB9.out.set_ 14 x).frozen 14⟩)
    have z14:w9.cell? ⟨I.b,14,none⟩=some I.L.v:=HB9.out.cell 14;have HR9:=qq hr9;clear hown9 hu9 hv9 hn9 hr9;refine hK.out _ _ HK10.out (fun hHeld=>?_);clear hK;try simp only [NR]
    refine tk 16 rfl ?_ ?_ ?_;rotate_left 1
    ·intro w hS;go_simp;all_goals with_reducible rfl
    try simp only [NR]
    refine tk 17 rfl ?_ ?_ ?_;rotate_left 1
    ·intro w hS;go_simp;all_goals with_reducible rfl
    try simp only [NR]
    refine wpAnyH_ready (rs:=[18]) (by kernel_rfl) (by simp) ?_;refine ac rfl fun K hK=>?_;rw [if_pos (by rfl)];go_simp;refine hK.out _ _ (HK11.out _) (fun hHeld=>?_);clear hK;try simp only [NR]
    refine wpAnyH_done (by kernel_rfl) ?_ _
   rotate_left 1;refine ac rfl fun K hK=>?_;rw [if_pos (by rfl)];go_simp;refine hK.out _ _ (hHeld) (fun hHeld=>?_);clear hK;try simp only [NR]
   refine tk 14 rfl ?_ ?_ ?_;rotate_left 1
   ·intro w hS;go_simp;all_goals with_reducible rfl
   try simp only [NR]
   refine wpAnyH_ready (rs:=[1]) (by kernel_rfl) (by simp) ?_;refine ac rfl fun K hK=>?_;rw [if_pos (by rfl)];go_simp;refine hK.out _ _ (HKa.out _) (fun hHeld=>?_);clear hK;try simp only [NR]
   refine wpAnyH_ready (rs:=[15]) (by kernel_rfl) (by simp) ?_;refine ac rfl fun K hK=>?_;refine step_app_ents rfl (.tmp 44) (.tmp 57) rfl w3.heap.size (.slice (some ⟨w3.heap.size,0,none⟩) 0 0) 0 [] rfl HOW.out ⟨X,I.L.n - k,I.L.c - k⟩ (s.L.drop k) rfl HRD.out HN400.out HZ2.out ?_;intro v9 w9 hown9 hu9 hv9;obtain ⟨s9,rfl,hn9,hr9,_⟩:=own_ents hown9 N;have HU9:=qq (show Upd (fun j=>w3.heap.size≤j) w3 w9 from (HBK.out _).trans hu9 (fun j hj=>.inl (by injection hj with hj;exact Nat.le_of_eq hj)));have HK10:=qq (HSS.out w9 HU9.out);have HB9:=qq (HSP3.out.blk.upd HU9.out (by have:=HSP3.out.blk.lt;omega))
   have HK11:=qq fun (x:Value)=>(show (w9.setCell ⟨I.b,14,none⟩ x).cell? ⟨w.heap.size,1,none⟩=some (.int .u64 c.a)∧(w9.setCell ⟨I.b,14,none⟩ x).cell? ⟨I.b,13,none⟩=some (.int .u64 s.atI)∧(w9.setCell ⟨I.b,14,none⟩ x).frozen? ⟨I.b,14,none⟩=false from
    have hu:=(Upd.refl (fun j=>j=I.b) w9).setIn rfl 14 x
    ⟨hu.cell HK10.out.1 (by have:=HIB.out;omega),(HB9.out.set_ 14 x).cell 13,(HB9.out.set_ 14 x).frozen 14⟩)
   have z14:w9.cell? ⟨I.b,14,none⟩=some I.L.v:=HB9.out.cell 14;have HR9:=qq hr9;clear hown9 hu9 hv9 hn9 hr9;refine hK.out _ _ HK10.out (fun hHeld=>?_);clear hK;try simp only [NR]
   refine tk 16 rfl ?_ ?_ ?_;rotate_left 1
   ·intro w hS;go_simp;all_goals with_reducible rfl
   try simp only [NR]
   refine tk 17 rfl ?_ ?_ ?_;rotate_left 1
   ·intro w hS;go_simp;all_goals with_reducible rfl
   try simp only [NR]
   refine wpAnyH_ready (rs:=[18]) (by kernel_rfl) (by simp) ?_;refine ac rfl fun K hK=>?_;rw [if_pos (by rfl)];go_simp;refine hK.out _ _ (HK11.out _) (fun hHeld=>?_);clear hK;try simp only [NR]
   refine wpAnyH_done (by kernel_rfl) ?_ _;all_goals
    have HBT:=qq (show Blk (((w9.setCell ⟨I.b,14,none⟩ s9.v).setCell ⟨I.b,12,none⟩ (.int .u64 t1)).setCell ⟨I.b,13,none⟩ (.int .u64 c.a)) I.b 67 (stoCells {I with L:=s9} {s with L:=s.L.drop k,atT:=t1,atI:=c.a}) from ((HB9.out.set_ 14 s9.v).set_ 12 (.int .u64 t1)).set_ 13 (.int .u64 c.a));have HUT:=qq (show Upd (fun j=>j=I.b) w9 (((w9.setCell ⟨I.b,14,none⟩ s9.v).setCell ⟨I.b,12,none⟩ (.int .u64 t1)).setCell ⟨I.b,13,none⟩ (.int .u64 c.a)) from (((Upd.refl (fun j=>j=I.b) w9).setIn rfl 14 _).setIn rfl 12 _).setIn rfl 13 _);have HU39:=qq (show Upd (fun j=>w3.heap.size≤j) w3 w9 from HU9.out);have HNW3:=qq (show N≤w3.heap.size from Nat.le_trans HNW.out (Nat.le_trans HUA.out.size U3.out.size));have hw3:w.heap.size+1+1<w3.heap.size:=by have:=(HAB.out.upd U3.out (fun h=>h)).lt;exact this
    have HRT:=qq (show Blk (((w9.setCell ⟨I.b,14,none⟩ s9.v).setCell ⟨I.b,12,none⟩ (.int .u64 t1)).setCell ⟨I.b,13,none⟩ (.int .u64 c.a)) (w.heap.size+1) 69 Jb.nil.cells from ((HRB.out.upd U3.out (fun h=>h)).upd HU39.out (by omega)).upd HUT.out (by have:=HIB.out;omega));have HAT:=qq (show Blk (((w9.setCell ⟨I.b,14,none⟩ s9.v).setCell ⟨I.b,12,none⟩ (.int .u64 t1)).setCell ⟨I.b,13,none⟩ (.int .u64 c.a)) (w.heap.size+1+1) 69 (Z69 0 0) from ((HAB.out.upd U3.out (fun h=>h)).upd HU39.out (by omega)).upd HUT.out (by have:=HIB.out;omega));have HFT:=qq ((HU39.out.frUp HNW3.out).trans (HUT.out.fr (N:=N) (by rintro j rfl;exact HB9.out.mutb HSP3.out.N rfl)));have HFT9:=qq (HUT.out.fr (N:=N) (by rintro j rfl;exact HB9.out.mutb HSP3.out.N rfl));have HUTT:=qq (show Upd (fun j=>j=I.b) w (((w9.setCell ⟨I.b,14,none⟩ s9.v).setCell ⟨I.b,12,none⟩ (.int .u64 t1)).setCell ⟨I.b,13,none⟩ (.int .u64 c.a)) from ((HUA.out.no U3.out).ofNo.trans HU39.out (fun j hj=>.inr (by have:=Nat.le_trans HUA.out.size U3.out.size;omega))).Ke HUT.out);have p1:(w9.setCell ⟨I.b,14,none⟩ s9.v).cell? ⟨w.heap.size,1,none⟩=some (.int .u64 c.a):=(HK11.out _).1;have z12:(w9.setCell ⟨I.b,14,none⟩ s9.v).cell? ⟨I.b,12,none⟩=some (.int .u64 s.atT):=(HB9.out.set_ 14 _).cell 12;have z13:(w9.setCell ⟨I.b,14,none⟩ s9.v).cell? ⟨I.b,13,none⟩=some (.int .u64 s.atI):=(HB9.out.set_ 14 _).cell 13;have yi:=(HB9.out.set_ 14 s9.v).frozen;obtain ⟨w10,hw10⟩:∃W,W=w9.setCell ⟨I.b,14,none⟩ s9.v:=⟨_,rfl⟩
    rw [←hw10] at HBT HUT HRT HAT HFT HFT9 HUTT p1 z12 z13 yi ⊢;have HRS9:=qq (HR9.out.fr HFT9.out);clear hw10 hw3 HK10 HK11 z14 HR9 HU9 HKd HKa d14 da14 HBK HOW HRD HN400 HZ2 hXt HSS HS14 j4 HB9
    go_wp2_with (first
     |(with_reducible refine Jm rfl 69 (.tmp 6) rfl (w.heap.size+1+1) (Z69 0 0) rfl 69 _ HAT.out Tryz.underlying69 rfl HAI.out ?_)
     |(with_reducible refine Jk rfl 69 (.tmp 4) (.tmp 185) rfl (w.heap.size+1) (Z69 0 0) rfl rfl 69 Jb.nil.cells HRT.out HAI.out rfl HAO.out ?_
       intro w9 hb9 hu9;have HB9:=qq hb9;have HU9:=qq hu9
       clear hb9 hu9)
     |fail)
    refine Jw rfl (w.heap.size+1) 69 (Z69 0 0) _ rfl HB9.out Tryz.underlying69 rfl HAI.out rfl ?_;exact StDoR.fin (V:=Jb.nil) (bb:=true) (I':={I with L:=s9}) HIB.out HNW.out HUTT.out rfl ⟨HBT.out,HSP3.out.cf.fr HFT.out,HRS9.out,HSP3.out.N⟩ HRT.out HU9.out (fun he=>(by rw [HX.out] at he;cases he)) fun An s' he=>by
     rw [HX.out] at he;cases he;exact ⟨rfl,Jb.Js _ _,rfl⟩
theorem spStDo_3 (h:Kb N w I s) (hs:s.Sm) {v:Jd} {c:SCall} (hv:v.Rd N w c) (hc:c.Ok) (hk:v.kind=3):
  Calls Tryz.prog 19 #[.pointer (some ⟨I.b,0,none⟩),.agg v.cells] w fun e w'=>StDoR N w (SDo s c) I s e w':=by
 have hi0:=hs.i0;have hi1:=hs.i1;have hLl:=hs.len;have hls:s.last=s.atI+s.L.length:=rfl;have HNW:=qq (Nat.le_trans h.N (Nat.le_of_lt h.blk.lt));have HIB:=qq h.blk.lt;have hva:=hv.a;have hvb:=hv.b;have hkc:c.kind=3:=hv.kind.symm.trans hk;have hca0:=hc.a0;have hca1:=hc.a1;obtain ⟨wa,hwa⟩:∃W,((w.alloc (.cells v.cells 43)).alloc (.cells (Z69 0 0) 69)).alloc (.cells (Z69 0 0) 69)=W:=⟨_,rfl⟩;have HUA:=qq (show Upd No w wa by rw [←hwa];exact (((Upd.refl No w).alloc _).alloc _).alloc _);have HPB:=qq (show Blk wa w.heap.size 43 v.cells by rw [←hwa];exact ((Blk.new w _ _).alloc _).alloc _);have HRB:=qq (show Blk wa (w.heap.size+1) 69 Jb.nil.cells by rw [←hwa];exact (Blk.new_ (by simp)).alloc _);have HAB:=qq (show Blk wa (w.heap.size+1+1) 69 Jb.nil.cells by rw [←hwa];exact Blk.new_ (by simp));have HSA:=qq (h.no HUA.out);have p0:wa.cell? ⟨w.heap.size,0,none⟩=some (.int .i64 3):=by rw [←hk];exact HPB.out.cell 0
 have p1:wa.cell? ⟨w.heap.size,1,none⟩=some (.int .u64 c.a):=by rw [←hva];exact HPB.out.cell 1
 have HVS:=qq (hv.sn.fr HUA.out.fr0);have hX:SDo s c=s.create c.a c.snap:=by unfold SDo;rw [if_neg (by omega),if_neg (by omega),if_pos hkc]
 have HX:=qq hX;have HF:=qq (spStCreate HSA.out hs ((hv.fr HUA.out.fr0)) hc);have HCI:=qq (Jd.inf v);rw [←hX] at HF;clear h hs hX hls hva hvb hv hc hkc hk;go_enter Tryz.func19,Tryz.ntmps19
 go_wp2_with (first
  |(with_reducible refine Jm rfl 43 (.tmp 3) rfl w.heap.size v.cells rfl 43 _ HPB.out Tryz.underlying43 rfl HCI.out ?_)
  |fail)
 refine HF.out.mono ?_;intro r w2 hr;obtain ⟨V,bb,I',s1,rfl,hIb,hS,hU,h1,h2⟩:=hr;have H2:=qq (And.intro hIb (And.intro hS (And.intro hU (And.intro h1 h2))));clear hIb hS hU h1 h2;have HRB2:=qq (HRB.out.upd H2.out.2.2.1 (by have:=HIB.out;omega));have HVI:=qq V.inf;have HVO:=qq V.one
 go_wp2_with (first
  |(with_reducible refine Jk rfl 69 (.tmp 4) (.tmp 73) rfl (w.heap.size+1) V.cells rfl rfl 69 Jb.nil.cells HRB2.out HVI.out rfl HVO.out ?_
    intro w9 hb9 hu9;have HB9:=qq hb9;have HU9:=qq hu9
    clear hb9 hu9)
  |fail)
 refine Jw rfl (w.heap.size+1) 69 V.cells _ rfl HB9.out Tryz.underlying69 rfl HVI.out rfl ?_;exact StDoR.fin (V:=V) HIB.out HNW.out (HUA.out.ofNo.Ke H2.out.2.2.1) H2.out.1 H2.out.2.1 HRB2.out HU9.out H2.out.2.2.2.1 H2.out.2.2.2.2
theorem spStDo_4 (h:Kb N w I s) (hs:s.Sm) {v:Jd} {c:SCall} (hv:v.Rd N w c) (hc:c.Ok) (hk:v.kind=4):
  Calls Tryz.prog 19 #[.pointer (some ⟨I.b,0,none⟩),.agg v.cells] w fun e w'=>StDoR N w (SDo s c) I s e w':=by
 have hi0:=hs.i0;have hi1:=hs.i1;have hLl:=hs.len;have hls:s.last=s.atI+s.L.length:=rfl;have HNW:=qq (Nat.le_trans h.N (Nat.le_of_lt h.blk.lt));have HIB:=qq h.blk.lt;have hva:=hv.a;have hvb:=hv.b;have hkc:c.kind=4:=hv.kind.symm.trans hk;have hca0:=hc.a0;have hca1:=hc.a1;obtain ⟨wa,hwa⟩:∃W,((w.alloc (.cells v.cells 43)).alloc (.cells (Z69 0 0) 69)).alloc (.cells (Z69 0 0) 69)=W:=⟨_,rfl⟩;have HUA:=qq (show Upd No w wa by rw [←hwa];exact (((Upd.refl No w).alloc _).alloc _).alloc _);have HPB:=qq (show Blk wa w.heap.size 43 v.cells by rw [←hwa];exact ((Blk.new w _ _).alloc _).alloc _);have HRB:=qq (show Blk wa (w.heap.size+1) 69 Jb.nil.cells by rw [←hwa];exact (Blk.new_ (by simp)).alloc _);have HAB:=qq (show Blk wa (w.heap.size+1+1) 69 Jb.nil.cells by rw [←hwa];exact Blk.new_ (by simp));have HSA:=qq (h.no HUA.out);have p0:wa.cell? ⟨w.heap.size,0,none⟩=some (.int .i64 4):=by rw [←hk];exact HPB.out.cell 0
 have p1:wa.cell? ⟨w.heap.size,1,none⟩=some (.int .u64 c.a):=by rw [←hva];exact HPB.out.cell 1
 have HVS:=qq (hv.sn.fr HUA.out.fr0);have hXX:SDo s c=s.apply c.snap:=by unfold SDo;rw [if_neg (by omega),if_neg (by omega),if_neg (by omega),if_pos hkc]
 have hpi:v.sn.index=c.snap.index:=hv.sn.index;have hpt:v.sn.term=c.snap.term:=hv.sn.term;have p6:wa.cell? ⟨w.heap.size,6,none⟩=some (.int .u64 v.sn.index):=HPB.out.cell 6;have p7:wa.cell? ⟨w.heap.size,7,none⟩=some (.int .u64 v.sn.term):=HPB.out.cell 7;have c1:wa.cell? ⟨I.b,1,none⟩=some (.int .u64 s.snap.index):=by rw [←HSA.out.cf.index];exact HSA.out.c 1
 have hI0:=hc.i0;have hT0:=hc.t0;rw [←hpi] at hI0;rw [←hpt] at hT0;have HPI:=qq hpi;have HPT:=qq hpt;have HAB0:=qq (show Blk wa (w.heap.size+1+1) 69 (Z69 0 0) from HAB.out);have HAI:=qq (show (Tryz.prog.info? 69).map (·.size)=some ((Z69 0 0):Array Value).size from inf69);have HAO:=qq (show ((Z69 0 0):Array Value).all (·.oneCell')=true by simp [Value.oneCell']);have HEI:=qq (show (Tryz.prog.info? 69).map (·.size)=some ((Z69 2 0):Array Value).size from inf69);have HEO:=qq (show ((Z69 2 0):Array Value).all (·.oneCell')=true by simp [Value.oneCell']);by_cases hbad:v.sn.index=0∨farI≤v.sn.index∨farI≤v.sn.term
 ·have hX:SDo s c=none:=by rw [hXX];unfold StL.apply;rw [←hpi,←hpt,if_pos hbad]
  have HX:=qq hX;by_cases h1:v.sn.index=0
  ·have q1:(v.sn.index==0)=true:=beq_iff_eq.2 h1;clear h1;clear hbad hpi hpt hXX h hs hX hls hva hvb hv hc hkc hk;go_enter Tryz.func19,Tryz.ntmps19
   go_wp2_with (first
    |(with_reducible refine Jm rfl 69 (.tmp 6) rfl (w.heap.size+1+1) (Z69 0 0) rfl 69 _ HAB0.out Tryz.underlying69 rfl HAI.out ?_)
    |(with_reducible refine Jk rfl 69 (.tmp 4) (.tmp 93) rfl (w.heap.size+1) (Z69 0 0) rfl rfl 69 Jb.nil.cells HRB.out HAI.out rfl HAO.out ?_
      intro w9 hb9 hu9;have HB9:=qq hb9;have HU9:=qq hu9
      clear hb9 hu9)
    |fail)
   refine Jw rfl (w.heap.size+1) 69 (Z69 0 0) _ rfl HB9.out Tryz.underlying69 rfl HAI.out rfl ?_;exact StDoR.fin (V:=Jb.nil) (bb:=false) HIB.out HNW.out HUA.out.ofNo rfl HSA.out HRB.out HU9.out (fun he=>rfl) fun An s' he=>by rw [HX.out] at he;cases he
  ·have q1:(v.sn.index==0)=false:=beq_eq_false_iff_ne.2 h1;by_cases h2:farI≤v.sn.index
   ·have q2:decide (4611686018427387904≤v.sn.index)=true:=decide_eq_true h2;have q2':4611686018427387904≤v.sn.index:=h2;clear h1 h2;clear hbad hpi hpt hXX h hs hX hls hva hvb hv hc hkc hk;go_enter Tryz.func19,Tryz.ntmps19
    go_wp2_with (first
     |(with_reducible refine Jm rfl 69 (.tmp 6) rfl (w.heap.size+1+1) (Z69 0 0) rfl 69 _ HAB0.out Tryz.underlying69 rfl HAI.out ?_)
     |(with_reducible refine Jk rfl 69 (.tmp 4) (.tmp 93) rfl (w.heap.size+1) (Z69 0 0) rfl rfl 69 Jb.nil.cells HRB.out HAI.out rfl HAO.out ?_
       intro w9 hb9 hu9;have HB9:=qq hb9;have HU9:=qq hu9
       clear hb9 hu9)
     |fail)
    refine Jw rfl (w.heap.size+1) 69 (Z69 0 0) _ rfl HB9.out Tryz.underlying69 rfl HAI.out rfl ?_;exact StDoR.fin (V:=Jb.nil) (bb:=false) HIB.out HNW.out HUA.out.ofNo rfl HSA.out HRB.out HU9.out (fun he=>rfl) fun An s' he=>by rw [HX.out] at he;cases he
   ·have q2:decide (4611686018427387904≤v.sn.index)=false:=decide_eq_false h2;have q3:decide (4611686018427387904≤v.sn.term)=true:=decide_eq_true (by rcases hbad with h|h|h;exact absurd h h1;exact absurd h h2;exact h);have q3':4611686018427387904≤v.sn.term:=by rcases hbad with h|h|h;exact absurd h h1;exact absurd h h2;exact h
    have q2':¬4611686018427387904≤v.sn.index:=h2;clear h1 h2;clear hbad hpi hpt hXX h hs hX hls hva hvb hv hc hkc hk;go_enter Tryz.func19,Tryz.ntmps19
    go_wp2_with (first
     |(with_reducible refine Jm rfl 69 (.tmp 6) rfl (w.heap.size+1+1) (Z69 0 0) rfl 69 _ HAB0.out Tryz.underlying69 rfl HAI.out ?_)
     |(with_reducible refine Jk rfl 69 (.tmp 4) (.tmp 93) rfl (w.heap.size+1) (Z69 0 0) rfl rfl 69 Jb.nil.cells HRB.out HAI.out rfl HAO.out ?_
       intro w9 hb9 hu9;have HB9:=qq hb9;have HU9:=qq hu9
       clear hb9 hu9)
     |fail)
    refine Jw rfl (w.heap.size+1) 69 (Z69 0 0) _ rfl HB9.out Tryz.underlying69 rfl HAI.out rfl ?_;exact StDoR.fin (V:=Jb.nil) (bb:=false) HIB.out HNW.out HUA.out.ofNo rfl HSA.out HRB.out HU9.out (fun he=>rfl) fun An s' he=>by rw [HX.out] at he;cases he
 ·have q1:(v.sn.index==0)=false:=beq_eq_false_iff_ne.2 (fun h=>hbad (.inl h));have q2':¬4611686018427387904≤v.sn.index:=fun h=>hbad (.inr (.inl h));have q3':¬4611686018427387904≤v.sn.term:=fun h=>hbad (.inr (.inr h));have q2:decide (4611686018427387904≤v.sn.index)=false:=decide_eq_false q2';have q3:decide (4611686018427387904≤v.sn.term)=false:=decide_eq_false q3';have hz1:¬v.sn.index=0:=fun h=>hbad (.inl h);by_cases h4:v.sn.index≤s.snap.index
  ·have hX:SDo s c=some ({SAns.none with err:=2},s):=by rw [hXX];unfold StL.apply;rw [←hpi,←hpt,if_neg hbad,if_pos h4]
   have HX:=qq hX;have hd:decide (v.sn.index≤s.snap.index)=true:=decide_eq_true h4;clear h4 hz1;clear hbad hpi hpt hXX h hs hX hls hva hvb hv hc hkc hk;go_enter Tryz.func19,Tryz.ntmps19;go_wp2_with fail
   go_quiet (fail)
   obtain ⟨w2,hw2⟩:∃W,W=wa.drewN nq:=⟨_,rfl⟩;have U2:=qq (show Upd No wa w2 by rw [hw2];exact (Upd.refl No wa).drewN nq);rw [←hw2];have HAB2:=qq (HAB.out.upd U2.out (fun h=>h));have HRB2:=qq (HRB.out.upd U2.out (fun h=>h));clear hw2 p0 p1 p6 p7 c1 hwa;have a0:w2.cell? ⟨w.heap.size+1+1,0,none⟩=some (.int .i64 0):=HAB2.out.cell 0;have ya:=HAB2.out.frozen;have HAS:=qq (show Blk (w2.setCell ⟨w.heap.size+1+1,0,none⟩ (.int .i64 2)) (w.heap.size+1+1) 69 (Z69 2 0) from HAB2.out.set_ 0 _);have HUS:=qq (show Upd (fun j=>j=w.heap.size+1+1) w2 (w2.setCell ⟨w.heap.size+1+1,0,none⟩ (.int .i64 2)) from (Upd.refl (fun j=>j=w.heap.size+1+1) w2).setIn rfl 0 _);have HRS:=qq (HRB2.out.upd HUS.out (by omega));have HFS:=qq (HUS.out.fr (N:=N) (by rintro j rfl;exact HAB2.out.mutb (by have:=HNW.out;omega) rfl))
   go_wp2_with (first
    |(with_reducible refine Jm rfl 69 (.tmp 6) rfl (w.heap.size+1+1) (Z69 2 0) rfl 69 _ HAS.out Tryz.underlying69 rfl HEI.out ?_)
    |(with_reducible refine Jk rfl 69 (.tmp 4) (.tmp 104) rfl (w.heap.size+1) (Z69 2 0) rfl rfl 69 Jb.nil.cells HRS.out HEI.out rfl HEO.out ?_
      intro w9 hb9 hu9;have HB9:=qq hb9;have HU9:=qq hu9
      clear hb9 hu9)
    |fail)
   refine Jw rfl (w.heap.size+1) 69 (Z69 2 0) _ rfl HB9.out Tryz.underlying69 rfl HEI.out rfl ?_;exact StDoR.fin (V:={Jb.nil with err:=2}) (bb:=true) HIB.out HNW.out (((HUA.out.no U2.out).ofNo).trans HUS.out (by rintro j rfl;exact .inr (by omega))) rfl ((HSA.out.no U2.out).upd HUS.out HFS.out (by have:=HIB.out;omega)) HRS.out HU9.out (fun he=>(by rw [HX.out] at he;cases he)) fun An s' he=>by
    rw [HX.out] at he;cases he;exact ⟨rfl,⟨rfl,rfl,Jg.nil none,SnV.Js _ _⟩,rfl⟩
  ·have hX:SDo s c=some (SAns.none,{s with snap:=c.snap,atT:=c.snap.term,atI:=c.snap.index,L:=[]}):=by rw [hXX];unfold StL.apply;rw [←hpi,←hpt,if_neg hbad,if_neg h4]
   have HX:=qq hX;have hd:decide (v.sn.index≤s.snap.index)=false:=decide_eq_false h4;clear h4 hz1;clear hbad hpi hpt hXX h hs hX hls hva hvb hv hc hkc hk;go_enter Tryz.func19,Tryz.ntmps19;go_wp2_with fail
   go_quiet (fail)
   obtain ⟨w2,hw2⟩:∃W,W=wa.drewN nq:=⟨_,rfl⟩;have U2:=qq (show Upd No wa w2 by rw [hw2];exact (Upd.refl No wa).drewN nq);rw [←hw2];have HAB2:=qq (HAB.out.upd U2.out (fun h=>h));have HRB2:=qq (HRB.out.upd U2.out (fun h=>h));have HPB2:=qq (HPB.out.upd U2.out (fun h=>h));have HSB2:=qq (HSA.out.blk.upd U2.out (fun h=>h));clear hw2 p0 p1 p6 p7 c1 hwa;have q5:w2.cell? ⟨w.heap.size,5,none⟩=some (.string v.sn.data):=HPB2.out.cell 5;have q6:w2.cell? ⟨w.heap.size,6,none⟩=some (.int .u64 v.sn.index):=HPB2.out.cell 6;have q7:w2.cell? ⟨w.heap.size,7,none⟩=some (.int .u64 v.sn.term):=HPB2.out.cell 7;have q8:w2.cell? ⟨w.heap.size,8,none⟩=some v.sn.cf.vo.v:=HPB2.out.cell 8;have q9:w2.cell? ⟨w.heap.size,9,none⟩=some v.sn.cf.le.v:=HPB2.out.cell 9;have q10:w2.cell? ⟨w.heap.size,10,none⟩=some v.sn.cf.ou.v:=HPB2.out.cell 10;have q11:w2.cell? ⟨w.heap.size,11,none⟩=some v.sn.cf.ne.v:=HPB2.out.cell 11;have q12:w2.cell? ⟨w.heap.size,12,none⟩=some (.bool v.sn.cf.auto):=HPB2.out.cell 12;have z0:w2.cell? ⟨I.b,0,none⟩=some (.string I.v.data):=HSB2.out.cell 0;have z1:w2.cell? ⟨I.b,1,none⟩=some (.int .u64 I.v.index):=HSB2.out.cell 1;have z2:w2.cell? ⟨I.b,2,none⟩=some (.int .u64 I.v.term):=HSB2.out.cell 2;have z3:w2.cell? ⟨I.b,3,none⟩=some I.v.cf.vo.v:=HSB2.out.cell 3;have z4:w2.cell? ⟨I.b,4,none⟩=some I.v.cf.le.v:=HSB2.out.cell 4;have z5:w2.cell? ⟨I.b,5,none⟩=some I.v.cf.ou.v:=HSB2.out.cell 5;have z6:w2.cell? ⟨I.b,6,none⟩=some I.v.cf.ne.v:=HSB2.out.cell 6
   have z7:w2.cell? ⟨I.b,7,none⟩=some (.bool I.v.cf.auto):=HSB2.out.cell 7;have z12:w2.cell? ⟨I.b,12,none⟩=some (.int .u64 s.atT):=HSB2.out.cell 12;have z13:w2.cell? ⟨I.b,13,none⟩=some (.int .u64 s.atI):=HSB2.out.cell 13;have z14:w2.cell? ⟨I.b,14,none⟩=some I.L.v:=HSB2.out.cell 14;have yi:=HSB2.out.frozen;have HNEW:=qq (show ∀W,Blk W I.b 67 (stoCells I s)→Blk (W.setCells I.b 0 (#[.string v.sn.data,.int .u64 v.sn.index,.int .u64 v.sn.term,v.sn.cf.vo.v,v.sn.cf.le.v,v.sn.cf.ou.v,v.sn.cf.ne.v,.bool v.sn.cf.auto]:Array Value).toList) I.b 67 (stoCells {I with v:=v.sn} s) from fun W hb=>(show (((((((((stoCells I s).setIfInBounds 0 (.string v.sn.data)).setIfInBounds 1 (.int .u64 v.sn.index)).setIfInBounds 2 (.int .u64 v.sn.term)).setIfInBounds 3 v.sn.cf.vo.v).setIfInBounds 4 v.sn.cf.le.v).setIfInBounds 5 v.sn.cf.ou.v).setIfInBounds 6 v.sn.cf.ne.v).setIfInBounds 7 (.bool v.sn.cf.auto))=stoCells {I with v:=v.sn} s by simp [stoCells]) ▸((((((((hb.set_ 0 (.string v.sn.data)).set_ 1 (.int .u64 v.sn.index)).set_ 2 (.int .u64 v.sn.term)).set_ 3 v.sn.cf.vo.v).set_ 4 v.sn.cf.le.v).set_ 5 v.sn.cf.ou.v).set_ 6 v.sn.cf.ne.v).set_ 7 (.bool v.sn.cf.auto)));have HLE:=qq (show 0+(#[.string v.sn.data,.int .u64 v.sn.index,.int .u64 v.sn.term,v.sn.cf.vo.v,v.sn.cf.le.v,v.sn.cf.ou.v,v.sn.cf.ne.v,.bool v.sn.cf.auto]:Array Value).size≤(stoCells I s).size from (by decide:(8:Nat)≤15))
   have H39:=qq (show (Tryz.prog.info? 39).map (·.size)=some (#[.string v.sn.data,.int .u64 v.sn.index,.int .u64 v.sn.term,v.sn.cf.vo.v,v.sn.cf.le.v,v.sn.cf.ou.v,v.sn.cf.ne.v,.bool v.sn.cf.auto]:Array Value).size from inf39);have H39O:=qq (show (#[.string v.sn.data,.int .u64 v.sn.index,.int .u64 v.sn.term,v.sn.cf.vo.v,v.sn.cf.le.v,v.sn.cf.ou.v,v.sn.cf.ne.v,.bool v.sn.cf.auto]:Array Value).all (·.oneCell')=true by simp [Value.oneCell'])
   go_wp2_with (first
    |(with_reducible refine Kc rfl 39 (.tmp 109) (.tmp 107) rfl I.b 0 #[.string v.sn.data,.int .u64 v.sn.index,.int .u64 v.sn.term,v.sn.cf.vo.v,v.sn.cf.le.v,v.sn.cf.ou.v,v.sn.cf.ne.v,.bool v.sn.cf.auto] rfl rfl 67 (stoCells I s) (stoCells {I with v:=v.sn} s) HSB2.out HNEW.out HLE.out H39.out H39O.out ?_
      intro w3 hb3 hu3;have HB3:=qq hb3;have HU3:=qq hu3;clear z0 z1 z2 z3 z4 z5 z6 z7 z12 z13 z14 q5 q8 q9 q10 q11 q12 yi;have q6:=HU3.out.cell q6 (by have:=HIB.out;omega);have q7:=HU3.out.cell q7 (by have:=HIB.out;omega);have z12:w3.cell? ⟨I.b,12,none⟩=some (.int .u64 s.atT):=HB3.out.cell 12;have z13:w3.cell? ⟨I.b,13,none⟩=some (.int .u64 s.atI):=HB3.out.cell 13;have z14:w3.cell? ⟨I.b,14,none⟩=some I.L.v:=HB3.out.cell 14;have yi:=HB3.out.frozen;have HBS:=qq (show Blk (((w3.setCell ⟨I.b,12,none⟩ (.int .u64 v.sn.term)).setCell ⟨I.b,13,none⟩ (.int .u64 v.sn.index)).setCell ⟨I.b,14,none⟩ (.slice none 0 0)) I.b 67 (stoCells {I with v:=v.sn,L:=⟨none,0,0⟩} {s with snap:=c.snap,atT:=v.sn.term,atI:=v.sn.index,L:=[]}) from (show ((((stoCells {I with v:=v.sn} s).setIfInBounds 12 (.int .u64 v.sn.term)).setIfInBounds 13 (.int .u64 v.sn.index)).setIfInBounds 14 (.slice none 0 0))=stoCells {I with v:=v.sn,L:=⟨none,0,0⟩} {s with snap:=c.snap,atT:=v.sn.term,atI:=v.sn.index,L:=[]} by simp [stoCells]) ▸(((HB3.out.set_ 12 (.int .u64 v.sn.term)).set_ 13 (.int .u64 v.sn.index)).set_ 14 (.slice none 0 0)));have HUS:=qq (show Upd (fun j=>j=I.b) w2 (((w3.setCell ⟨I.b,12,none⟩ (.int .u64 v.sn.term)).setCell ⟨I.b,13,none⟩ (.int .u64 v.sn.index)).setCell ⟨I.b,14,none⟩ (.slice none 0 0)) from HU3.out.Ke ((((Upd.refl (fun j=>j=I.b) w3).setIn rfl 12 (.int .u64 v.sn.term)).setIn rfl 13 (.int .u64 v.sn.index)).setIn rfl 14 (.slice none 0 0)));have HRS:=qq (HRB2.out.upd HUS.out (by have:=HIB.out;omega))
      have HAS:=qq (show Blk (((w3.setCell ⟨I.b,12,none⟩ (.int .u64 v.sn.term)).setCell ⟨I.b,13,none⟩ (.int .u64 v.sn.index)).setCell ⟨I.b,14,none⟩ (.slice none 0 0)) (w.heap.size+1+1) 69 (Z69 0 0) from HAB2.out.upd HUS.out (by have:=HIB.out;omega));have HFS:=qq (HUS.out.fr (N:=N) (by rintro j rfl;exact HSB2.out.mutb HSA.out.N rfl))
      clear hb3 hu3)
    |(with_reducible refine Jm rfl 69 (.tmp 6) rfl (w.heap.size+1+1) (Z69 0 0) rfl 69 _ HAS.out Tryz.underlying69 rfl HAI.out ?_)
    |(with_reducible refine Jk rfl 69 (.tmp 4) (.tmp 185) rfl (w.heap.size+1) (Z69 0 0) rfl rfl 69 Jb.nil.cells HRS.out HAI.out rfl HAO.out ?_
      intro w9 hb9 hu9;have HB9:=qq hb9;have HU9:=qq hu9
      clear hb9 hu9)
    |fail)
   refine Jw rfl (w.heap.size+1) 69 (Z69 0 0) _ rfl HB9.out Tryz.underlying69 rfl HAI.out rfl ?_;refine StDoR.fin (V:=Jb.nil) (bb:=true) (I':={I with v:=v.sn,L:=⟨none,0,0⟩}) (s1:={s with snap:=c.snap,atT:=c.snap.term,atI:=c.snap.index,L:=[]}) HIB.out HNW.out (((HUA.out.no U2.out).ofNo).Ke HUS.out) rfl ⟨?_,(HVS.out.fr U2.out.fr0).fr HFS.out,Jg.nil none,HSA.out.N⟩ HRS.out HU9.out (fun he=>(by rw [HX.out] at he;cases he)) fun An s' he=>by
    rw [HX.out] at he;cases he;exact ⟨rfl,Jb.Js _ _,rfl⟩
   rw [←HPI.out,←HPT.out];exact HBS.out
theorem spStDo_5 (h:Kb N w I s) (hs:s.Sm) {v:Jd} {c:SCall} (hv:v.Rd N w c) (hc:c.Ok) (hk:v.kind=5):
  Calls Tryz.prog 19 #[.pointer (some ⟨I.b,0,none⟩),.agg v.cells] w fun e w'=>StDoR N w (SDo s c) I s e w':=by
 have hi0:=hs.i0;have hi1:=hs.i1;have hLl:=hs.len;have hls:s.last=s.atI+s.L.length:=rfl;have HNW:=qq (Nat.le_trans h.N (Nat.le_of_lt h.blk.lt));have HIB:=qq h.blk.lt;have hva:=hv.a;have hvb:=hv.b;have hkc:c.kind=5:=hv.kind.symm.trans hk;have hca0:=hc.a0;have hca1:=hc.a1;obtain ⟨wa,hwa⟩:∃W,((w.alloc (.cells v.cells 43)).alloc (.cells (Z69 0 0) 69)).alloc (.cells (Z69 0 0) 69)=W:=⟨_,rfl⟩;have HUA:=qq (show Upd No w wa by rw [←hwa];exact (((Upd.refl No w).alloc _).alloc _).alloc _);have HPB:=qq (show Blk wa w.heap.size 43 v.cells by rw [←hwa];exact ((Blk.new w _ _).alloc _).alloc _);have HRB:=qq (show Blk wa (w.heap.size+1) 69 Jb.nil.cells by rw [←hwa];exact (Blk.new_ (by simp)).alloc _);have HAB:=qq (show Blk wa (w.heap.size+1+1) 69 Jb.nil.cells by rw [←hwa];exact Blk.new_ (by simp));have HSA:=qq (h.no HUA.out);have p0:wa.cell? ⟨w.heap.size,0,none⟩=some (.int .i64 5):=by rw [←hk];exact HPB.out.cell 0
 have p1:wa.cell? ⟨w.heap.size,1,none⟩=some (.int .u64 c.a):=by rw [←hva];exact HPB.out.cell 1
 have HVS:=qq (hv.sn.fr HUA.out.fr0);have hX:SDo s c=s.entries c.a c.b:=by unfold SDo;rw [if_neg (by omega),if_neg (by omega),if_neg (by omega),if_neg (by omega),if_pos hkc]
 have HX:=qq hX;have HF:=qq (spStEntries (v:=v) HSA.out hs (by rw [hva];exact hca1));rw [hva,hvb] at HF;have HCI:=qq (Jd.inf v);rw [←hX] at HF;clear h hs hX hls hva hvb hv hc hkc hk;go_enter Tryz.func19,Tryz.ntmps19
 go_wp2_with (first
  |(with_reducible refine Jm rfl 43 (.tmp 3) rfl w.heap.size v.cells rfl 43 _ HPB.out Tryz.underlying43 rfl HCI.out ?_)
  |fail)
 refine HF.out.mono ?_;intro r w2 hr;obtain ⟨V,bb,rfl,hU,h1,h2⟩:=hr;have H2:=qq (show I.b=I.b∧Kb N w2 I s∧Upd (fun j=>j=I.b) wa w2∧(SDo s c=none→bb=false)∧(∀An s',SDo s c=some (An,s')→bb=true∧V.Rd N w2 An∧s'=s) from ⟨rfl,HSA.out.no hU,hU.ofNo,h1,h2⟩);clear hU h1 h2;have HRB2:=qq (HRB.out.upd H2.out.2.2.1 (by have:=HIB.out;omega));have HVI:=qq V.inf;have HVO:=qq V.one
 go_wp2_with (first
  |(with_reducible refine Jk rfl 69 (.tmp 4) (.tmp 128) rfl (w.heap.size+1) V.cells rfl rfl 69 Jb.nil.cells HRB2.out HVI.out rfl HVO.out ?_
    intro w9 hb9 hu9;have HB9:=qq hb9;have HU9:=qq hu9
    clear hb9 hu9)
  |fail)
 refine Jw rfl (w.heap.size+1) 69 V.cells _ rfl HB9.out Tryz.underlying69 rfl HVI.out rfl ?_;exact StDoR.fin (V:=V) HIB.out HNW.out (HUA.out.ofNo.Ke H2.out.2.2.1) rfl H2.out.2.1 HRB2.out HU9.out H2.out.2.2.2.1 H2.out.2.2.2.2
end
end Go.Proofs.YtmagnkjodjmojaaGreat
