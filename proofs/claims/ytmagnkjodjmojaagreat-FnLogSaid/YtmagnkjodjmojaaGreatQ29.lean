/- A part of the proof of FnLog: laws and walks, with their conditions written at each. -/
import Derived.Test.YtmagnkjodjmojaaGreatQ28
set_option maxRecDepth 20000
set_option maxHeartbeats 4000000
set_option linter.all false
namespace Go.Proofs.YtmagnkjodjmojaaGreat
open Go.RowKit
section
variable {N:Nat} {w w':World} {S:Nat→Prop} {I:StK} {s:StL} {B:TlK} {u:TlL} {l:Nat} {g:LgL}
theorem Kb.put (h:Kb N w I s) {I':StK} {s':StL} (hb:Blk w' I.b 67 (stoCells I' s')) (hu:Upd (fun k=>k=I.b) w w') (hB:I'.b=I.b) (hcf:I'.v.Rd N w' s'.snap) (hL:Jh N w' I'.L s'.L):Kb N w' I' s':=⟨hB ▸hb,hcf,hL,hB ▸h.N⟩
theorem spStCreate (h:Kb N w I s) (hs:s.Sm) {v:Jd} {c:SCall} (hv:v.Rd N w c) (hc:c.Ok):
  Calls Tryz.prog 52 #[.pointer (some ⟨I.b,0,none⟩),.agg v.cells] w fun e w'=>StDoR N w (s.create c.a c.snap) I s e w':=by
 have hi0:=hs.i0;have hi1:=hs.i1;have hLl:=hs.len;have hls:s.last=s.atI+s.L.length:=rfl;have HNW:=qq (Nat.le_trans h.N (Nat.le_of_lt h.blk.lt));have HIB:=qq h.blk.lt;have hva:=hv.a;have hca0:=hc.a0;have hca1:=hc.a1;rw [←hva] at hca0 hca1 ⊢;obtain ⟨wa,hwa⟩:∃W,(w.alloc (.cells v.cells 43)).alloc (.cells (Z69 0 0) 69)=W:=⟨_,rfl⟩;have HUA:=qq (show Upd No w wa by rw [←hwa];exact ((Upd.refl No w).alloc _).alloc _);have HPB:=qq (show Blk wa w.heap.size 43 v.cells by rw [←hwa];exact (Blk.new w _ _).alloc _);have HRB:=qq (show Blk wa (w.heap.size+1) 69 Jb.nil.cells by rw [←hwa];exact Blk.new_ (by simp));have HSA:=qq (h.no HUA.out);have HP:=qq fun (W:World) (hu:Upd No wa W)=>(show W.cell? ⟨w.heap.size,0,none⟩=some (.int .i64 v.kind)∧W.cell? ⟨w.heap.size,1,none⟩=some (.int .u64 v.a)∧W.cell? ⟨w.heap.size,2,none⟩=some (.int .u64 v.b) from ⟨(HPB.out.upd hu (fun h=>h)).cell 0,(HPB.out.upd hu (fun h=>h)).cell 1,(HPB.out.upd hu (fun h=>h)).cell 2⟩);have p0:=(HP.out wa (Upd.refl _ _)).1;have p1:=(HP.out wa (Upd.refl _ _)).2.1;have p2:=(HP.out wa (Upd.refl _ _)).2.2;have c13:wa.cell? ⟨I.b,13,none⟩=some (.int .u64 s.atI):=HSA.out.c 13;have c1:wa.cell? ⟨I.b,1,none⟩=some (.int .u64 s.snap.index):=by rw [←HSA.out.cf.index];exact HSA.out.c 1
 have HL:=qq fun (n:Nat)=>spStLast (HSA.out.drewN n) hs;have HVA:=qq hva;by_cases h1:v.a≤s.snap.index
 ·have hd1:decide (v.a≤s.snap.index)=true:=decide_eq_true h1;have hX:s.create v.a c.snap=some ({SAns.none with err:=2},s):=by unfold StL.create;rw [if_pos h1]
  have HX:=qq hX;have HAI:=qq (show (Tryz.prog.info? 69).map (·.size)=some ((Z69 2 0):Array Value).size from inf69);have HAO:=qq (show ((Z69 2 0):Array Value).all (·.oneCell')=true by simp [Value.oneCell']);clear h hs hX h1 hls hva hv hc;generalize s.last=la at*;go_enter Tryz.func52,Tryz.ntmps52;go_wp2_with fail
  go_quiet (fail)
  obtain ⟨w2,hw2⟩:∃W,W=wa.drewN nq:=⟨_,rfl⟩;have U2:=qq (show Upd No wa w2 by rw [hw2];exact (Upd.refl No wa).drewN nq);have HRB2:=qq (HRB.out.upd U2.out (fun h=>h));have HL2:=qq fun (n:Nat)=>(show Calls Tryz.prog 32 #[pp I.b] (w2.drewN n) fun e w'=>e=.returned (.int .u64 la)∧∃m,(w2.drewN n).drewN m=w' by rw [hw2,World.drewN_drewN];exact HL.out _);rw [←hw2];clear hw2 p0 p1 p2 c13 c1 hwa;have p1:=(HP.out w2 U2.out).2.1;have c13:w2.cell? ⟨I.b,13,none⟩=some (.int .u64 s.atI):=(HSA.out.no U2.out).c 13
  go_wp2_with (first
    |(with_reducible refine Jk rfl 69 (.tmp 4) (.tmp 16) rfl (w.heap.size+1) (Z69 2 0) rfl rfl 69 Jb.nil.cells HRB2.out HAI.out rfl HAO.out ?_
      intro w9 hb9 hu9;have HB9:=qq hb9;have HU9:=qq hu9
      clear hb9 hu9)
    |fail)
  refine Jw rfl (w.heap.size+1) 69 (Z69 2 0) _ rfl HB9.out Tryz.underlying69 rfl HAI.out rfl ?_;have hu9:Upd No w w9:=(HUA.out.no U2.out).trans HU9.out (by rintro j rfl;exact .inr (Nat.le_succ _))
  exact ⟨{Jb.nil with err:=2},true,I,s,rfl,rfl,(HSA.out.no U2.out).upd HU9.out (HU9.out.fr (by rintro k rfl;exact HRB2.out.mutb (by have:=HNW.out;omega) rfl)) (by have:=HIB.out;omega),hu9.ofNo,fun he=>(by rw [HX.out] at he;cases he),fun An s' he=>by
   rw [HX.out] at he;cases he
   exact ⟨rfl,⟨rfl,rfl,Jg.nil none,SnV.Js _ _⟩,rfl⟩⟩
 ·have hd1:decide (v.a≤s.snap.index)=false:=decide_eq_false h1;by_cases h2:v.a<s.atI∨s.last<v.a
  ·have hX:s.create v.a c.snap=none:=by unfold StL.create;rw [if_neg h1,if_pos h2]
   have HX:=qq hX;have HAI:=qq (show (Tryz.prog.info? 69).map (·.size)=some ((Z69 0 0):Array Value).size from inf69);have HAO:=qq (show ((Z69 0 0):Array Value).all (·.oneCell')=true by simp [Value.oneCell']);clear h hs hX h1 hls hva hv hc;generalize s.last=la at*;by_cases h3:v.a<s.atI;focus
    have hd2:decide (v.a<s.atI)=true:=decide_eq_true h3;clear h2 h3;go_enter Tryz.func52,Tryz.ntmps52;go_wp2_with fail
    go_quiet (fail)
    obtain ⟨w2,hw2⟩:∃W,W=wa.drewN nq:=⟨_,rfl⟩;have U2:=qq (show Upd No wa w2 by rw [hw2];exact (Upd.refl No wa).drewN nq);have HRB2:=qq (HRB.out.upd U2.out (fun h=>h));have HL2:=qq fun (n:Nat)=>(show Calls Tryz.prog 32 #[pp I.b] (w2.drewN n) fun e w'=>e=.returned (.int .u64 la)∧∃m,(w2.drewN n).drewN m=w' by rw [hw2,World.drewN_drewN];exact HL.out _);rw [←hw2];clear hw2 p0 p1 p2 c13 c1 hwa;have p1:=(HP.out w2 U2.out).2.1;have c13:w2.cell? ⟨I.b,13,none⟩=some (.int .u64 s.atI):=(HSA.out.no U2.out).c 13;go_wp2_with fail
    go_quiet ((go_at_call 32;exact Ji (HL2.out _)))
    clear hd2
   rotate_left 1;focus
    have hd2:decide (v.a<s.atI)=false:=decide_eq_false h3;have hd3:decide (la<v.a)=true:=decide_eq_true (by rcases h2 with h|h;exact absurd h h3;exact h);clear h2 h3;go_enter Tryz.func52,Tryz.ntmps52;go_wp2_with fail
    go_quiet (fail)
    obtain ⟨w2,hw2⟩:∃W,W=wa.drewN nq:=⟨_,rfl⟩;have U2:=qq (show Upd No wa w2 by rw [hw2];exact (Upd.refl No wa).drewN nq);have HRB2:=qq (HRB.out.upd U2.out (fun h=>h));have HL2:=qq fun (n:Nat)=>(show Calls Tryz.prog 32 #[pp I.b] (w2.drewN n) fun e w'=>e=.returned (.int .u64 la)∧∃m,(w2.drewN n).drewN m=w' by rw [hw2,World.drewN_drewN];exact HL.out _);rw [←hw2];clear hw2 p0 p1 p2 c13 c1 hwa;have p1:=(HP.out w2 U2.out).2.1;have c13:w2.cell? ⟨I.b,13,none⟩=some (.int .u64 s.atI):=(HSA.out.no U2.out).c 13;go_wp2_with fail
    go_quiet ((go_at_call 32;exact Ji (HL2.out _)))
    clear hd2 hd3
   all_goals
    have U3:=qq (U2.out.drewN nq);clear HRB2;have HRB2:=qq (HRB.out.upd U3.out (fun h=>h))
    go_wp2_with (first
     |(with_reducible refine Jk rfl 69 (.tmp 4) (.tmp 32) rfl (w.heap.size+1) (Z69 0 0) rfl rfl 69 Jb.nil.cells HRB2.out HAI.out rfl HAO.out ?_
       intro w9 hb9 hu9;have HB9:=qq hb9;have HU9:=qq hu9
       clear hb9 hu9)
     |fail)
    refine Jw rfl (w.heap.size+1) 69 (Z69 0 0) _ rfl HB9.out Tryz.underlying69 rfl HAI.out rfl ?_;have hu9:Upd No w w9:=(HUA.out.no U3.out).trans HU9.out (by rintro j rfl;exact .inr (Nat.le_succ _));exact ⟨Jb.nil,false,I,s,rfl,rfl,(HSA.out.no U3.out).upd HU9.out (HU9.out.fr (by rintro k rfl;exact HRB2.out.mutb (by have:=HNW.out;omega) rfl)) (by have:=HIB.out;omega),hu9.ofNo,fun he=>rfl,fun An s' he=>by rw [HX.out] at he;cases he⟩
  ·have hX:s.create v.a c.snap=some ({SAns.none with snap:=⟨c.snap.data,v.a,(s.term v.a).1,c.snap.cf⟩},{s with snap:=⟨c.snap.data,v.a,(s.term v.a).1,c.snap.cf⟩}):=by unfold StL.create;rw [if_neg h1,if_neg h2]
   have HX:=qq hX;have HT:=qq fun (W:World) (hu:Upd No wa W)=>(spStTerm (HSA.out.no hu) hs hca0 hca1).toU;have HVS:=qq hv.sn;have hd2:decide (v.a<s.atI)=false:=decide_eq_false (fun h=>h2 (.inl h));have hd3:decide (s.last<v.a)=false:=decide_eq_false (fun h=>h2 (.inr h));clear h hs hX h1 h2 hls hva hv hc;generalize s.last=la at*;generalize s.term v.a=tt at*;obtain ⟨t1,t2⟩:=tt;simp only at HT HX;have HAI:=qq (show (Tryz.prog.info? 69).map (·.size)=some (#[.int .i64 0,.int .u64 0,.slice none 0 0,.string v.sn.data,.int .u64 v.a,.int .u64 t1,v.sn.cf.vo.v,v.sn.cf.le.v,v.sn.cf.ou.v,v.sn.cf.ne.v,.bool v.sn.cf.auto,.int .u64 0,.int .u64 0,.int .u64 0,.bool false,.slice none 0 0,.slice none 0 0,.slice none 0 0,.slice none 0 0,.bool false,.bool false]:Array Value).size from inf69);have HAO:=qq (show (#[.int .i64 0,.int .u64 0,.slice none 0 0,.string v.sn.data,.int .u64 v.a,.int .u64 t1,v.sn.cf.vo.v,v.sn.cf.le.v,v.sn.cf.ou.v,v.sn.cf.ne.v,.bool v.sn.cf.auto,.int .u64 0,.int .u64 0,.int .u64 0,.bool false,.slice none 0 0,.slice none 0 0,.slice none 0 0,.slice none 0 0,.bool false,.bool false]:Array Value).all (·.oneCell')=true by simp [Value.oneCell']);go_enter Tryz.func52,Tryz.ntmps52;go_wp2_with fail
   go_quiet (fail)
   obtain ⟨w2,hw2⟩:∃W,W=wa.drewN nq:=⟨_,rfl⟩;have U2:=qq (show Upd No wa w2 by rw [hw2];exact (Upd.refl No wa).drewN nq);have HRB2:=qq (HRB.out.upd U2.out (fun h=>h));have HL2:=qq fun (n:Nat)=>(show Calls Tryz.prog 32 #[pp I.b] (w2.drewN n) fun e w'=>e=.returned (.int .u64 la)∧∃m,(w2.drewN n).drewN m=w' by rw [hw2,World.drewN_drewN];exact HL.out _);rw [←hw2];clear hw2 p0 p1 p2 c13 c1 hwa;have p1:=(HP.out w2 U2.out).2.1;have c13:w2.cell? ⟨I.b,13,none⟩=some (.int .u64 s.atI):=(HSA.out.no U2.out).c 13;go_wp2_with fail
   go_quiet ((go_at_call 32;exact Ji (HL2.out _)))
   have U3:=qq (U2.out.drewN nq);have p1:(w2.drewN nq).cell? ⟨w.heap.size,1,none⟩=some (.int .u64 v.a):=(HP.out _ U3.out).2.1;clear hd2 hd3;go_wp2_with fail
   refine (HT.out _ U3.out).mono ?_;rintro r w4 ⟨rfl,U4⟩;have U5:=qq (U3.out.no U4);clear U4 HRB2;have HB4:=qq (HSA.out.blk.upd U5.out (fun h=>h));have HRB2:=qq (HRB.out.upd U5.out (fun h=>h));have HPB4:=qq (HPB.out.upd U5.out (fun h=>h));have p1:w4.cell? ⟨w.heap.size,1,none⟩=some (.int .u64 v.a):=HPB4.out.cell 1;have p5:w4.cell? ⟨w.heap.size,5,none⟩=some (.string v.sn.data):=HPB4.out.cell 5;have p8:w4.cell? ⟨w.heap.size,8,none⟩=some v.sn.cf.vo.v:=HPB4.out.cell 8;have p9:w4.cell? ⟨w.heap.size,9,none⟩=some v.sn.cf.le.v:=HPB4.out.cell 9;have p10:w4.cell? ⟨w.heap.size,10,none⟩=some v.sn.cf.ou.v:=HPB4.out.cell 10;have p11:w4.cell? ⟨w.heap.size,11,none⟩=some v.sn.cf.ne.v:=HPB4.out.cell 11;have p12:w4.cell? ⟨w.heap.size,12,none⟩=some (.bool v.sn.cf.auto):=HPB4.out.cell 12;have z0:w4.cell? ⟨I.b,0,none⟩=some (.string I.v.data):=HB4.out.cell 0;have z1:w4.cell? ⟨I.b,1,none⟩=some (.int .u64 I.v.index):=HB4.out.cell 1;have z2:w4.cell? ⟨I.b,2,none⟩=some (.int .u64 I.v.term):=HB4.out.cell 2;have z3:w4.cell? ⟨I.b,3,none⟩=some I.v.cf.vo.v:=HB4.out.cell 3;have z4:w4.cell? ⟨I.b,4,none⟩=some I.v.cf.le.v:=HB4.out.cell 4;have z5:w4.cell? ⟨I.b,5,none⟩=some I.v.cf.ou.v:=HB4.out.cell 5;have z6:w4.cell? ⟨I.b,6,none⟩=some I.v.cf.ne.v:=HB4.out.cell 6;have z7:w4.cell? ⟨I.b,7,none⟩=some (.bool I.v.cf.auto):=HB4.out.cell 7;have yy:=HB4.out.frozen
   have HU4:=qq (show Upd (fun k=>k=I.b) w4 ((((((((w4.setCell ⟨I.b,0,none⟩ (.string v.sn.data)).setCell ⟨I.b,1,none⟩ (.int .u64 v.a)).setCell ⟨I.b,2,none⟩ (.int .u64 t1)).setCell ⟨I.b,3,none⟩ v.sn.cf.vo.v).setCell ⟨I.b,4,none⟩ v.sn.cf.le.v).setCell ⟨I.b,5,none⟩ v.sn.cf.ou.v).setCell ⟨I.b,6,none⟩ v.sn.cf.ne.v).setCell ⟨I.b,7,none⟩ (.bool v.sn.cf.auto)) from (((((((((Upd.refl (fun k=>k=I.b) w4).setIn rfl 0 (.string v.sn.data)).setIn rfl 1 (.int .u64 v.a)).setIn rfl 2 (.int .u64 t1)).setIn rfl 3 v.sn.cf.vo.v).setIn rfl 4 v.sn.cf.le.v).setIn rfl 5 v.sn.cf.ou.v).setIn rfl 6 v.sn.cf.ne.v).setIn rfl 7 (.bool v.sn.cf.auto)))
   have HB5:=qq (show Blk ((((((((w4.setCell ⟨I.b,0,none⟩ (.string v.sn.data)).setCell ⟨I.b,1,none⟩ (.int .u64 v.a)).setCell ⟨I.b,2,none⟩ (.int .u64 t1)).setCell ⟨I.b,3,none⟩ v.sn.cf.vo.v).setCell ⟨I.b,4,none⟩ v.sn.cf.le.v).setCell ⟨I.b,5,none⟩ v.sn.cf.ou.v).setCell ⟨I.b,6,none⟩ v.sn.cf.ne.v).setCell ⟨I.b,7,none⟩ (.bool v.sn.cf.auto)) I.b 67 (stoCells {I with v:=⟨v.sn.data,v.a,t1,v.sn.cf⟩} {s with snap:=⟨c.snap.data,v.a,t1,c.snap.cf⟩}) from (show (((((((((stoCells I s).setIfInBounds 0 (.string v.sn.data)).setIfInBounds 1 (.int .u64 v.a)).setIfInBounds 2 (.int .u64 t1)).setIfInBounds 3 v.sn.cf.vo.v).setIfInBounds 4 v.sn.cf.le.v).setIfInBounds 5 v.sn.cf.ou.v).setIfInBounds 6 v.sn.cf.ne.v).setIfInBounds 7 (.bool v.sn.cf.auto))=stoCells {I with v:=⟨v.sn.data,v.a,t1,v.sn.cf⟩} {s with snap:=⟨c.snap.data,v.a,t1,c.snap.cf⟩} by simp [stoCells]) ▸((((((((HB4.out.set_ 0 (.string v.sn.data)).set_ 1 (.int .u64 v.a)).set_ 2 (.int .u64 t1)).set_ 3 v.sn.cf.vo.v).set_ 4 v.sn.cf.le.v).set_ 5 v.sn.cf.ou.v).set_ 6 v.sn.cf.ne.v).set_ 7 (.bool v.sn.cf.auto)));have HRB5:=qq (show Blk ((((((((w4.setCell ⟨I.b,0,none⟩ (.string v.sn.data)).setCell ⟨I.b,1,none⟩ (.int .u64 v.a)).setCell ⟨I.b,2,none⟩ (.int .u64 t1)).setCell ⟨I.b,3,none⟩ v.sn.cf.vo.v).setCell ⟨I.b,4,none⟩ v.sn.cf.le.v).setCell ⟨I.b,5,none⟩ v.sn.cf.ou.v).setCell ⟨I.b,6,none⟩ v.sn.cf.ne.v).setCell ⟨I.b,7,none⟩ (.bool v.sn.cf.auto)) (w.heap.size+1) 69 Jb.nil.cells from HRB2.out.upd HU4.out (by have:=HIB.out;omega))
   go_wp2_with (first
    |(with_reducible refine Jk rfl 69 (.tmp 4) (.tmp 57) rfl (w.heap.size+1) #[.int .i64 0,.int .u64 0,.slice none 0 0,.string v.sn.data,.int .u64 v.a,.int .u64 t1,v.sn.cf.vo.v,v.sn.cf.le.v,v.sn.cf.ou.v,v.sn.cf.ne.v,.bool v.sn.cf.auto,.int .u64 0,.int .u64 0,.int .u64 0,.bool false,.slice none 0 0,.slice none 0 0,.slice none 0 0,.slice none 0 0,.bool false,.bool false] rfl rfl 69 Jb.nil.cells HRB5.out HAI.out rfl HAO.out ?_
      intro w9 hb9 hu9;have HB9:=qq hb9;have HU9:=qq hu9
      clear hb9 hu9)
    |fail)
   refine Jw rfl (w.heap.size+1) 69 #[.int .i64 0,.int .u64 0,.slice none 0 0,.string v.sn.data,.int .u64 v.a,.int .u64 t1,v.sn.cf.vo.v,v.sn.cf.le.v,v.sn.cf.ou.v,v.sn.cf.ne.v,.bool v.sn.cf.auto,.int .u64 0,.int .u64 0,.int .u64 0,.bool false,.slice none 0 0,.slice none 0 0,.slice none 0 0,.slice none 0 0,.bool false,.bool false] _ rfl HB9.out Tryz.underlying69 rfl HAI.out rfl ?_;have hm5:∀k,k=w.heap.size+1→Mutb N ((((((((w4.setCell ⟨I.b,0,none⟩ (.string v.sn.data)).setCell ⟨I.b,1,none⟩ (.int .u64 v.a)).setCell ⟨I.b,2,none⟩ (.int .u64 t1)).setCell ⟨I.b,3,none⟩ v.sn.cf.vo.v).setCell ⟨I.b,4,none⟩ v.sn.cf.le.v).setCell ⟨I.b,5,none⟩ v.sn.cf.ou.v).setCell ⟨I.b,6,none⟩ v.sn.cf.ne.v).setCell ⟨I.b,7,none⟩ (.bool v.sn.cf.auto)) k:=by rintro k rfl;exact HRB5.out.mutb (by have:=HNW.out;omega) rfl
   have hf9:=HU9.out.fr (N:=N) hm5;have hf4:=HU4.out.fr (N:=N) (by rintro k rfl;exact HB4.out.mutb HSA.out.N rfl);have hcf:SnV.Rd N w9 ⟨v.sn.data,v.a,t1,v.sn.cf⟩ ⟨c.snap.data,v.a,t1,c.snap.cf⟩:=by
    have h4:v.sn.Rd N w9 c.snap:=(((HVS.out.fr HUA.out.fr0).fr U5.out.fr0).fr hf4).fr hf9;exact ⟨h4.data,rfl,rfl,h4.cf,h4.d⟩
   exact ⟨{Jb.nil with sn:=⟨v.sn.data,v.a,t1,v.sn.cf⟩},true,{I with v:=⟨v.sn.data,v.a,t1,v.sn.cf⟩},{s with snap:=⟨c.snap.data,v.a,t1,c.snap.cf⟩},rfl,rfl,
    ⟨HB5.out.upd HU9.out (by have:=HIB.out;show ¬I.b=_;omega),hcf,(((HSA.out.L.fr U5.out.fr0).fr hf4).fr hf9),HSA.out.N⟩,
    (((HUA.out.no U5.out).ofNo.Ke HU4.out).trans HU9.out (by rintro j rfl;exact .inr (Nat.le_succ _))),fun he=>(by rw [HX.out] at he;cases he),fun An s' he=>by
     rw [HX.out] at he;cases he
     exact ⟨rfl,⟨rfl,rfl,Jg.nil none,hcf⟩,rfl⟩⟩
end
end Go.Proofs.YtmagnkjodjmojaaGreat
