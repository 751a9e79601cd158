/- A part of the proof of FnLog: laws and walks, with their conditions written at each. -/
import Derived.Lib.MinMax
import Derived.Test.YtmagnkjodjmojaaGreatQ16
import Derived.Test.YtmagnkjodjmojaaGreatQ26
set_option maxRecDepth 20000
set_option maxHeartbeats 4000000
set_option linter.all false
namespace Go.Proofs.YtmagnkjodjmojaaGreat
open Go.RowKit
structure SpIn (N:Nat) (w0:World) (l:Nat) (A:StK) (B:TlK) (p:Nat) (cs:Array Value) (w:World) (g:LgL):Prop where
 lg:Ka N w l A B g
 pb:Blk w p 45 cs
 up:Upd (spS l A B) w0 w
section
variable {N:Nat} {w w' w0:World} {S:Nat→Prop} {A:StK} {s:StL} {B:TlK} {u:TlL} {l p:Nat} {g g':LgL} {cs:Array Value}
theorem Ka.put (h:Ka N w l A B g) (j:Nat) (x:Value) (g':LgL) (hc:(lgCells A B g).setIfInBounds j x=lgCells A B g') (hs:g'.s=g.s) (hu:g'.u=g.u):
  Ka N (w.setCell ⟨l,j,none⟩ x) l A B g'∧Upd (spS l A B) w (w.setCell ⟨l,j,none⟩ x):=
 h.of_l (hc ▸h.blk.set_ j x) hs hu ((Upd.refl (fun k=>k=l) w).setIn rfl j x)
theorem SpIn.put (h:SpIn N w0 l A B p cs w g) (j:Nat) (x:Value) (g':LgL) (hc:(lgCells A B g).setIfInBounds j x=lgCells A B g') (hs:g'.s=g.s) (hu:g'.u=g.u):
  SpIn N w0 l A B p cs (w.setCell ⟨l,j,none⟩ x) g':=
 ⟨(h.lg.put j x g' hc hs hu).1,h.pb.far (fun e=>(h.pb.ne_ h.lg.blk (by decide)) e) x,h.up.Ke (h.lg.put j x g' hc hs hu).2⟩
theorem SpIn.no (h:SpIn N w0 l A B p cs w g) (hu:Upd No w w'):SpIn N w0 l A B p cs w' g:=⟨h.lg.no hu,h.pb.upd hu (fun h=>h),h.up.no hu⟩
theorem SpIn.drew (h:SpIn N w0 l A B p cs w g):SpIn N w0 l A B p cs w.drew g:=h.no (Upd.refl No w).drew
theorem SpIn.new (h:Ka N w l A B g) (cs:Array Value):SpIn N w l A B w.heap.size cs (w.alloc (.cells cs 45)) g:=⟨h.no ((Upd.refl No w).alloc _),Blk.new w _ _,(Upd.refl _ w).alloc _⟩
theorem SpIn.c (h:SpIn N w0 l A B p cs w g) (i:Nat):w.cell? ⟨p,i,none⟩=cs[i]?:=h.pb.cell i
theorem SpIn.k (h:SpIn N w0 l A B p cs w g) (i:Nat):w.cell? ⟨l,i,none⟩=(lgCells A B g)[i]?:=h.lg.c i
theorem SpIn.y (h:SpIn N w0 l A B p cs w g) (i:Nat):w.frozen? ⟨l,i,none⟩=false:=h.lg.blk.frozen i
def LgL.applyX (g:LgL) (kind a b:Int) (f:Bool):Option LgL:=
 if farI≤b then none else if kind=18 then (if g.com<a∨a<g.apg∨farI≤g.usg then none else some (g.applying a b f)) else (if g.com<a∨a<g.apd then none else some (g.appl a b))
set_option maxHeartbeats 8000000 in
theorem spApply (h:Ka N w l A B g) (hs:g.Sm) (ho:1≤g.u.off) (hg0:0≤g.usg) (hg2:g.usg<9223372036854775808) {v:Jc} (hb0:0≤v.b):
  Calls Tryz.prog 26 #[.pointer (some ⟨l,0,none⟩),.agg v.cells] w fun e w'=>e=.returned (.bool (g.applyX v.kind v.a v.b v.flag).isSome)∧Ka N w' l A B ((g.applyX v.kind v.a v.b v.flag).getD g)∧Upd (spS l A B) w w':=by
 have HI:=qq (SpIn.new h v.cells);obtain ⟨wa,hwa⟩:∃W,w.alloc (.cells v.cells 45)=W:=⟨_,rfl⟩;rw [hwa] at HI;have p0:wa.cell? ⟨w.heap.size,0,none⟩=some (.int .i64 v.kind):=HI.out.c 0;have p1:wa.cell? ⟨w.heap.size,1,none⟩=some (.int .u64 v.a):=HI.out.c 1;have p2:wa.cell? ⟨w.heap.size,2,none⟩=some (.int .u64 v.b):=HI.out.c 2;have p4:wa.cell? ⟨w.heap.size,4,none⟩=some (.bool v.flag):=HI.out.c 4;have HFIN:=qq fun (W:World) (g':LgL) (hi:SpIn N w l A B w.heap.size v.cells W g')=>And.intro hi.lg hi.up;clear h;have c2:wa.cell? ⟨l,2,none⟩=some (.int .u64 g.com):=HI.out.k 2;have c3:wa.cell? ⟨l,3,none⟩=some (.int .u64 g.apg):=HI.out.k 3;have c4:wa.cell? ⟨l,4,none⟩=some (.int .u64 g.apd):=HI.out.k 4;have c5:wa.cell? ⟨l,5,none⟩=some (.int .u64 g.size):=HI.out.k 5;have c6:wa.cell? ⟨l,6,none⟩=some (.int .u64 g.usg):=HI.out.k 6;have c7:wa.cell? ⟨l,7,none⟩=some (.bool g.paused):=HI.out.k 7;have y3:=HI.out.y 3;have y4:=HI.out.y 4;by_cases hb:farI≤v.b
 ·have hr:g.applyX v.kind v.a v.b v.flag=none:=by unfold LgL.applyX;rw [if_pos hb]
  rw [hr];unfold farI at hb;clear hs ho;go_enter Tryz.func26,Tryz.ntmps26;go_wp2;go_ret;exact ⟨rfl,HFIN.out _ _ HI.out⟩
 ·have hb':¬4611686018427387904≤v.b:=hb;have hb1:v.b<4611686018427387904:=by omega
  by_cases hk:v.kind=18
  ·have q:(v.kind==18)=true:=beq_iff_eq.2 hk;by_cases e1:g.com<v.a
   ·have d1:decide (g.com<v.a)=true:=decide_eq_true e1;have hr:g.applyX v.kind v.a v.b v.flag=none:=by unfold LgL.applyX;rw [if_neg hb,if_pos hk,if_pos (.inl e1)]
    rw [hr];clear hr hs ho hb;go_enter Tryz.func26,Tryz.ntmps26;go_wp2_with fail
    go_quiet (fail)
    go_wp2;go_ret;exact ⟨rfl,HFIN.out _ _ (HI.out.no ((Upd.refl No _).drewN _))⟩
   have d1:decide (g.com<v.a)=false:=decide_eq_false e1;by_cases e2:v.a<g.apg
   ·have d2:decide (v.a<g.apg)=true:=decide_eq_true e2;have hr:g.applyX v.kind v.a v.b v.flag=none:=by unfold LgL.applyX;rw [if_neg hb,if_pos hk,if_pos (.inr (.inl e2))]
    rw [hr];clear hr hs ho hb;go_enter Tryz.func26,Tryz.ntmps26;go_wp2_with fail
    go_quiet (fail)
    go_wp2;go_ret;exact ⟨rfl,HFIN.out _ _ (HI.out.no ((Upd.refl No _).drewN _))⟩
   have d2:decide (v.a<g.apg)=false:=decide_eq_false e2;by_cases e3:farI≤g.usg
   ·have d3:decide (4611686018427387904≤g.usg)=true:=decide_eq_true e3;have hr:g.applyX v.kind v.a v.b v.flag=none:=by unfold LgL.applyX;rw [if_neg hb,if_pos hk,if_pos (.inr (.inr e3))]
    rw [hr];clear hr hs ho hb;go_enter Tryz.func26,Tryz.ntmps26;go_wp2_with fail
    go_quiet (fail)
    go_wp2;go_ret;exact ⟨rfl,HFIN.out _ _ (HI.out.no ((Upd.refl No _).drewN _))⟩
   have d3:decide (4611686018427387904≤g.usg)=false:=decide_eq_false e3;have hr:g.applyX v.kind v.a v.b v.flag=some (g.applying v.a v.b v.flag):=by unfold LgL.applyX;rw [if_neg hb,if_pos hk,if_neg (by omega)]
   rw [hr];simp only [Option.isSome_some,Option.getD_some];have e3':g.usg<4611686018427387904:=by unfold farI at e3;omega
   have jw:IntKind.u64.wrap (g.usg+v.b)=g.usg+v.b:=by simp [IntKind.wrap_u64];omega
   obtain ⟨g1,hg1⟩:∃X:LgL,X= {g with apg:=v.a}:=⟨_,rfl⟩;obtain ⟨g2,hg2⟩:∃X:LgL,X= {g with apg:=v.a,usg:=g.usg+v.b}:=⟨_,rfl⟩;have HG1:=qq hg1;have HG2:=qq hg2;clear hg1 hg2;have HM:=qq fun (W:World) (hi:SpIn N w l A B w.heap.size v.cells W g2)=>(spMost hi.lg (by rw [HG2.out];exact ⟨hs.s,hs.u⟩) (by rw [HG2.out];exact ho) v.flag).toU;have hmost:g2.most v.flag=g.most v.flag:=by rw [HG2.out];rfl
   rw [hmost] at HM;have HAP:=qq (show ∀x,(decide (g.size≤g.usg+v.b)||decide (v.a<g.most v.flag))=x→g.applying v.a v.b v.flag= {g2 with paused:=x} from fun x hx=>by rw [HG2.out,←hx];rfl);generalize g.applying v.a v.b v.flag=G at*;generalize g.most v.flag=M at*;clear hr hs ho hb hmost e1 e2 e3;go_enter Tryz.func26,Tryz.ntmps26;go_wp2_with fail
   go_quiet (fail)
   obtain ⟨w2,hw2⟩:∃W,W=wa.drewN nq:=⟨_,rfl⟩;have HI2:=qq (show SpIn N w l A B w.heap.size v.cells w2 g by rw [hw2];exact HI.out.no ((Upd.refl No _).drewN nq));rw [←hw2];clear hw2 p0 p1 p2 p4 c2 c3 c4 c5 c6 c7 y3 y4 hwa q d1 d2 d3;have p1:w2.cell? ⟨w.heap.size,1,none⟩=some (.int .u64 v.a):=HI2.out.c 1;have c3:w2.cell? ⟨l,3,none⟩=some (.int .u64 g.apg):=HI2.out.k 3;have y3:=HI2.out.y 3;go_wp2_with fail
   obtain ⟨w3,hw3⟩:∃W,W=w2.setCell ⟨l,3,none⟩ (.int .u64 v.a):=⟨_,rfl⟩;have HI3:=qq (show SpIn N w l A B w.heap.size v.cells w3 g1 by rw [hw3];exact (HI2.out.put 3 (.int .u64 v.a) g1 (by rw [HG1.out];rfl) (by rw [HG1.out]) (by rw [HG1.out])));rw [←hw3];clear hw3 p1 c3 y3;have c6:w3.cell? ⟨l,6,none⟩=some (.int .u64 g.usg):=by rw [show g.usg=g1.usg by rw [HG1.out]];exact HI3.out.k 6
   have s2:w3.drew.cell? ⟨w.heap.size,2,none⟩=some (.int .u64 v.b)∧w3.drew.frozen? ⟨l,6,none⟩=false:=⟨HI3.out.drew.c 2,HI3.out.drew.y 6⟩;have HK:=qq fun (x:Value)=>(show (w3.setCell ⟨l,6,none⟩ x).drew.cell? ⟨w.heap.size,2,none⟩=some (.int .u64 v.b)∧(w3.setCell ⟨l,6,none⟩ x).drew.frozen? ⟨l,6,none⟩=false from ⟨(HI3.out.pb.far (p:=⟨l,6,none⟩) (fun e=>(HI3.out.pb.ne_ HI3.out.lg.blk (by decide)) e) x).cell 2,(HI3.out.lg.blk.set_ 6 x).frozen 6⟩);refine wp_region_held_drew (S:=(fun W=>W.cell? ⟨w.heap.size,2,none⟩=some (.int .u64 v.b)∧W.frozen? ⟨l,6,none⟩=false)) (by kernel_rfl) (s2) (fun hHeld=>?_);refine tk 0 rfl ?_ ?_ ?_;rotate_left 1
   ·intro w hS;go_simp;all_goals with_reducible rfl
   try simp only [NR]
   refine tk 1 rfl ?_ ?_ ?_;rotate_left 1
   ·intro w hS;go_simp;all_goals with_reducible rfl
   try simp only [NR]
   refine tk 2 rfl ?_ ?_ ?_;rotate_left 1
   ·intro w hS;go_simp;all_goals with_reducible rfl
   try simp only [NR]
   refine tk 3 rfl ?_ ?_ ?_;rotate_left 1
   ·intro w hS;go_simp;all_goals with_reducible rfl
   try simp only [NR]
   refine tk 5 rfl ?_ ?_ ?_;rotate_left 1
   ·intro w hS;go_simp;all_goals with_reducible rfl
   try simp only [NR]
   refine tk 6 rfl ?_ ?_ ?_;rotate_left 1
   ·intro w hS;go_simp;all_goals with_reducible rfl
   try simp only [NR]
   refine wpAnyH_ready (rs:=[4]) (by kernel_rfl) (by simp) ?_;refine ac rfl fun K hK=>?_;rw [if_pos (by rfl)];go_simp;refine hK.out _ _ (hHeld) (fun hHeld=>?_);clear hK;try simp only [NR]
   refine tk 7 rfl ?_ ?_ ?_;rotate_left 1
   ·intro w hS;go_simp;all_goals with_reducible rfl
   try simp only [NR]
   refine tk 8 rfl ?_ ?_ ?_;rotate_left 1
   ·intro w hS;go_simp;all_goals with_reducible rfl
   try simp only [NR]
   refine tk 9 rfl ?_ ?_ ?_;rotate_left 1
   ·intro w hS;go_simp;all_goals with_reducible rfl
   try simp only [NR]
   refine wpAnyH_ready (rs:=[10]) (by kernel_rfl) (by simp) ?_;refine ac rfl fun K hK=>?_;rw [if_pos (by rfl)];go_simp;refine hK.out _ _ (HK.out _) (fun hHeld=>?_);clear hK;try simp only [NR]
   refine wpAnyH_done (by kernel_rfl) ?_ _;all_goals
    obtain ⟨w4,hw4⟩:∃W,W=(w3.setCell ⟨l,6,none⟩ (.int .u64 (g.usg+v.b))).drew:=⟨_,rfl⟩;have HI4:=qq (show SpIn N w l A B w.heap.size v.cells w4 g2 by rw [hw4];exact (HI3.out.put 6 (.int .u64 (g.usg+v.b)) g2 (by rw [HG1.out,HG2.out];rfl) (by rw [HG1.out,HG2.out]) (by rw [HG1.out,HG2.out])).drew);rw [←hw4];clear hw4 c6 s2 HK jw;have c5:w4.cell? ⟨l,5,none⟩=some (.int .u64 g.size):=by rw [show g.size=g2.size by rw [HG2.out]];exact HI4.out.k 5
    have c6:w4.cell? ⟨l,6,none⟩=some (.int .u64 (g.usg+v.b)):=by rw [show g.usg+v.b=g2.usg by rw [HG2.out]];exact HI4.out.k 6
    have c7:w4.cell? ⟨l,7,none⟩=some (.bool g2.paused):=HI4.out.k 7;have y7:w4.frozen? ⟨l,7,none⟩=false:=HI4.out.y 7;have p1:w4.cell? ⟨w.heap.size,1,none⟩=some (.int .u64 v.a):=HI4.out.c 1;have p4:w4.cell? ⟨w.heap.size,4,none⟩=some (.bool v.flag):=HI4.out.c 4;have HPD:=qq fun (W:World) (hi:SpIn N w l A B w.heap.size v.cells W g2) (x:Bool)=>hi.put 7 (.bool x) {g2 with paused:=x} rfl rfl rfl;by_cases hge:g.size≤g.usg+v.b
    ·have hd:decide (g.size≤g.usg+v.b)=true:=decide_eq_true hge;have hG:=HAP.out true (by rw [hd];rfl);have HGG:=qq hG;clear hG HAP hge;go_wp2_with fail
     go_region
     go_wp2;go_ret;refine ⟨rfl,?_⟩;rw [HGG.out];exact HFIN.out _ _ (HPD.out _ HI4.out true).drew
    ·have hd:decide (g.size≤g.usg+v.b)=false:=decide_eq_false hge;have hG:=HAP.out (decide (v.a<M)) (by rw [hd];rfl);have HGG:=qq hG;clear hG HAP hge
     have HKS:=qq fun (W:World) (hi:SpIn N w l A B w.heap.size v.cells W g2)=>(show W.cell? ⟨l,5,none⟩=some (.int .u64 g.size)∧W.cell? ⟨l,6,none⟩=some (.int .u64 (g.usg+v.b))∧W.cell? ⟨w.heap.size,1,none⟩=some (.int .u64 v.a)∧W.cell? ⟨w.heap.size,4,none⟩=some (.bool v.flag)∧W.frozen? ⟨l,7,none⟩=false from
      ⟨by rw [show g.size=g2.size by rw [HG2.out]];exact hi.k 5,by rw [show g.usg+v.b=g2.usg by rw [HG2.out]];exact hi.k 6,hi.c 1,hi.c 4,hi.y 7⟩)
     have s0:=HKS.out _ HI4.out.drew;go_wp2_with fail
     go_region_held3 (fun W=>W.cell? ⟨l,5,none⟩=some (.int .u64 g.size)∧W.cell? ⟨l,6,none⟩=some (.int .u64 (g.usg+v.b))∧W.cell? ⟨w.heap.size,1,none⟩=some (.int .u64 v.a)∧W.cell? ⟨w.heap.size,4,none⟩=some (.bool v.flag)∧W.frozen? ⟨l,7,none⟩=false)
      (first
       |(with_reducible exact s0)
       |(with_reducible exact HK9.out)
       |(with_reducible exact HK10.out _))
      (first
       |(go_at_call 60
         refine (HM.out _ HI4.out.drew).mono ?_;rintro r w9 ⟨rfl,U9⟩;have HI9:=qq (HI4.out.drew.no U9);have HK9:=qq (HKS.out w9 HI9.out);have x7:w9.cell? ⟨l,7,none⟩=some (.bool g2.paused):=HI9.out.k 7
         have HK10:=qq fun (x:Bool)=>(show (w9.setCell ⟨l,7,none⟩ (.bool x)).cell? ⟨l,5,none⟩=some (.int .u64 g.size)∧(w9.setCell ⟨l,7,none⟩ (.bool x)).cell? ⟨l,6,none⟩=some (.int .u64 (g.usg+v.b))∧(w9.setCell ⟨l,7,none⟩ (.bool x)).cell? ⟨w.heap.size,1,none⟩=some (.int .u64 v.a)∧(w9.setCell ⟨l,7,none⟩ (.bool x)).cell? ⟨w.heap.size,4,none⟩=some (.bool v.flag)∧(w9.setCell ⟨l,7,none⟩ (.bool x)).frozen? ⟨l,7,none⟩=false from
          have hi:=HPD.out w9 HI9.out x
          ⟨by rw [show g.size=g2.size by rw [HG2.out]];exact hi.k 5,by rw [show g.usg+v.b=g2.usg by rw [HG2.out]];exact hi.k 6,hi.c 1,hi.c 4,hi.y 7⟩)
         clear U9))
     go_wp2;go_ret;refine ⟨rfl,?_⟩;rw [HGG.out];exact HFIN.out _ _ (HPD.out _ HI9.out _)
  ·have q:(v.kind==18)=false:=beq_eq_false_iff_ne.2 hk;by_cases e1:g.com<v.a
   ·have d1:decide (g.com<v.a)=true:=decide_eq_true e1;have hr:g.applyX v.kind v.a v.b v.flag=none:=by unfold LgL.applyX;rw [if_neg hb,if_neg hk,if_pos (.inl e1)]
    rw [hr];clear hr hs ho hb;go_enter Tryz.func26,Tryz.ntmps26;go_wp2_with fail
    go_quiet (fail)
    go_wp2;go_ret;exact ⟨rfl,HFIN.out _ _ (HI.out.no ((Upd.refl No _).drewN _))⟩
   have d1:decide (g.com<v.a)=false:=decide_eq_false e1;by_cases e2:v.a<g.apd
   ·have d2:decide (v.a<g.apd)=true:=decide_eq_true e2;have hr:g.applyX v.kind v.a v.b v.flag=none:=by unfold LgL.applyX;rw [if_neg hb,if_neg hk,if_pos (.inr e2)]
    rw [hr];clear hr hs ho hb;go_enter Tryz.func26,Tryz.ntmps26;go_wp2_with fail
    go_quiet (fail)
    go_wp2;go_ret;exact ⟨rfl,HFIN.out _ _ (HI.out.no ((Upd.refl No _).drewN _))⟩
   have d2:decide (v.a<g.apd)=false:=decide_eq_false e2;have hr:g.applyX v.kind v.a v.b v.flag=some (g.appl v.a v.b):=by unfold LgL.applyX;rw [if_neg hb,if_neg hk,if_neg (by omega)]
   rw [hr];simp only [Option.isSome_some,Option.getD_some];have jw:IntKind.u64.wrap (g.usg - min g.usg v.b)=g.usg - min g.usg v.b:=by simp [IntKind.wrap_u64];omega
   obtain ⟨g1,hg1⟩:∃X:LgL,X= {g with apd:=v.a}:=⟨_,rfl⟩;obtain ⟨g2,hg2⟩:∃X:LgL,X= {g with apd:=v.a,apg:=max g.apg v.a}:=⟨_,rfl⟩;obtain ⟨g3,hg3⟩:∃X:LgL,X= {g with apd:=v.a,apg:=max g.apg v.a,usg:=g.usg - min g.usg v.b}:=⟨_,rfl⟩;have HG1:=qq hg1;have HG2:=qq hg2;have HG3:=qq hg3;clear hg1 hg2 hg3;have HAP:=qq (show g.appl v.a v.b= {g3 with paused:=decide (g.size≤g.usg - min g.usg v.b)} by rw [HG3.out];rfl);generalize g.appl v.a v.b=G at*;clear hr hs ho hb e1 e2;go_enter Tryz.func26,Tryz.ntmps26;go_wp2_with fail
   go_quiet (fail)
   obtain ⟨w2,hw2⟩:∃W,W=wa.drewN nq:=⟨_,rfl⟩;have HI2:=qq (show SpIn N w l A B w.heap.size v.cells w2 g by rw [hw2];exact HI.out.no ((Upd.refl No _).drewN nq));rw [←hw2];clear hw2 p0 p1 p2 p4 c2 c3 c4 c5 c6 c7 y3 y4 hwa q d1 d2;have p1:w2.cell? ⟨w.heap.size,1,none⟩=some (.int .u64 v.a):=HI2.out.c 1;have c4:w2.cell? ⟨l,4,none⟩=some (.int .u64 g.apd):=HI2.out.k 4;have y4:=HI2.out.y 4;go_wp2_with fail
   obtain ⟨w3,hw3⟩:∃W,W=w2.setCell ⟨l,4,none⟩ (.int .u64 v.a):=⟨_,rfl⟩;have HI3:=qq (show SpIn N w l A B w.heap.size v.cells w3 g1 by rw [hw3];exact (HI2.out.put 4 (.int .u64 v.a) g1 (by rw [HG1.out];rfl) (by rw [HG1.out]) (by rw [HG1.out])));rw [←hw3];clear hw3 p1 c4 y4;have c3:w3.cell? ⟨l,3,none⟩=some (.int .u64 g.apg):=by rw [show g.apg=g1.apg by rw [HG1.out]];exact HI3.out.k 3
   have s2:(w3.drew.cell? ⟨w.heap.size,1,none⟩=some (.int .u64 v.a)∧w3.drew.frozen? ⟨l,3,none⟩=false):=⟨HI3.out.drew.c 1,HI3.out.drew.y 3⟩;have HK:=qq fun (x:Value)=>(show ((w3.setCell ⟨l,3,none⟩ x).drew.cell? ⟨w.heap.size,1,none⟩=some (.int .u64 v.a)∧(w3.setCell ⟨l,3,none⟩ x).drew.frozen? ⟨l,3,none⟩=false) from ⟨(HI3.out.pb.far (p:=⟨l,3,none⟩) (fun e=>(HI3.out.pb.ne_ HI3.out.lg.blk (by decide)) e) x).cell 1,(HI3.out.lg.blk.set_ 3 x).frozen 3⟩);refine wp_region_held_drew (S:=(fun W=>(W.cell? ⟨w.heap.size,1,none⟩=some (.int .u64 v.a)∧W.frozen? ⟨l,3,none⟩=false))) (by kernel_rfl) (s2) (fun hHeld=>?_);refine tk 0 rfl ?_ ?_ ?_;rotate_left 1
   ·intro w hS;go_simp;all_goals with_reducible rfl
   try simp only [NR]
   refine tk 1 rfl ?_ ?_ ?_;rotate_left 1
   ·intro w hS;go_simp;all_goals with_reducible rfl
   try simp only [NR]
   refine tk 2 rfl ?_ ?_ ?_;rotate_left 1
   ·intro w hS;go_simp;all_goals with_reducible rfl
   try simp only [NR]
   refine tk 3 rfl ?_ ?_ ?_;rotate_left 1
   ·intro w hS;go_simp;all_goals with_reducible rfl
   try simp only [NR]
   refine tk 5 rfl ?_ ?_ ?_;rotate_left 1
   ·intro w hS;go_simp;all_goals with_reducible rfl
   try simp only [NR]
   refine tk 6 rfl ?_ ?_ ?_;rotate_left 1
   ·intro w hS;go_simp;all_goals with_reducible rfl
   try simp only [NR]
   refine wpAnyH_ready (rs:=[4]) (by kernel_rfl) (by simp) ?_;refine ac rfl fun K hK=>?_;rw [if_pos (by rfl)];go_simp;refine hK.out _ _ (hHeld) (fun hHeld=>?_);clear hK;try simp only [NR]
   refine wpAnyH_ready (rs:=[7]) (by kernel_rfl) (by simp) ?_;refine ac rfl fun K hK=>?_;rw [if_pos (by rfl)];go_simp;refine hK.out _ _ (hHeld) (fun hHeld=>?_);clear hK;try simp only [NR]
   refine tk 8 rfl ?_ ?_ ?_;rotate_left 1
   ·intro w hS;go_simp;all_goals with_reducible rfl
   try simp only [NR]
   refine tk 9 rfl ?_ ?_ ?_;rotate_left 1
   ·intro w hS;go_simp;all_goals with_reducible rfl
   try simp only [NR]
   refine wpAnyH_ready (rs:=[10]) (by kernel_rfl) (by simp) ?_;refine ac rfl fun K hK=>?_;rw [if_pos (by rfl)];go_simp;refine hK.out _ _ (HK.out _) (fun hHeld=>?_);clear hK;try simp only [NR]
   refine wpAnyH_done (by kernel_rfl) ?_ _;all_goals
    obtain ⟨w4,hw4⟩:∃W,W=(w3.setCell ⟨l,3,none⟩ (.int .u64 (max g.apg v.a))).drew:=⟨_,rfl⟩;have HI4:=qq (show SpIn N w l A B w.heap.size v.cells w4 g2 by rw [hw4];exact (HI3.out.put 3 (.int .u64 (max g.apg v.a)) g2 (by rw [HG1.out,HG2.out];rfl) (by rw [HG1.out,HG2.out]) (by rw [HG1.out,HG2.out])).drew);rw [←hw4];clear hw4 c3 s2 HK;have c6:w4.cell? ⟨l,6,none⟩=some (.int .u64 g.usg):=by rw [show g.usg=g2.usg by rw [HG2.out]];exact HI4.out.k 6
    have s2:(w4.drew.cell? ⟨w.heap.size,2,none⟩=some (.int .u64 v.b)∧w4.drew.frozen? ⟨l,6,none⟩=false):=⟨HI4.out.drew.c 2,HI4.out.drew.y 6⟩;have HK:=qq fun (x:Value)=>(show ((w4.setCell ⟨l,6,none⟩ x).drew.cell? ⟨w.heap.size,2,none⟩=some (.int .u64 v.b)∧(w4.setCell ⟨l,6,none⟩ x).drew.frozen? ⟨l,6,none⟩=false) from ⟨(HI4.out.pb.far (p:=⟨l,6,none⟩) (fun e=>(HI4.out.pb.ne_ HI4.out.lg.blk (by decide)) e) x).cell 2,(HI4.out.lg.blk.set_ 6 x).frozen 6⟩);go_wp2_with fail
    refine wp_region_held_drew (S:=(fun W=>(W.cell? ⟨w.heap.size,2,none⟩=some (.int .u64 v.b)∧W.frozen? ⟨l,6,none⟩=false))) (by kernel_rfl) (s2) (fun hHeld=>?_);refine tk 0 rfl ?_ ?_ ?_;rotate_left 1
    ·intro w hS;go_simp;all_goals with_reducible rfl
    try simp only [NR]
    refine tk 1 rfl ?_ ?_ ?_;rotate_left 1
    ·intro w hS;go_simp;all_goals with_reducible rfl
    try simp only [NR]
    refine tk 2 rfl ?_ ?_ ?_;rotate_left 1
    ·intro w hS;go_simp;all_goals with_reducible rfl
    try simp only [NR]
    refine tk 3 rfl ?_ ?_ ?_;rotate_left 1
    ·intro w hS;go_simp;all_goals with_reducible rfl
    try simp only [NR]
    refine tk 5 rfl ?_ ?_ ?_;rotate_left 1
    ·intro w hS;go_simp;all_goals with_reducible rfl
    try simp only [NR]
    refine tk 6 rfl ?_ ?_ ?_;rotate_left 1
    ·intro w hS;go_simp;all_goals with_reducible rfl
    try simp only [NR]
    refine tk 7 rfl ?_ ?_ ?_;rotate_left 1
    ·intro w hS;go_simp;all_goals with_reducible rfl
    try simp only [NR]
    refine tk 9 rfl ?_ ?_ ?_;rotate_left 1
    ·intro w hS;go_simp;all_goals with_reducible rfl
    try simp only [NR]
    refine tk 10 rfl ?_ ?_ ?_;rotate_left 1
    ·intro w hS;go_simp;all_goals with_reducible rfl
    try simp only [NR]
    refine wpAnyH_ready (rs:=[4,8]) (by kernel_rfl) (by simp) ?_;refine AllReadyH.cons (o:=_) rfl (fun K hK=>?_) ?_;focus
     rw [if_pos (by rfl)];go_simp;refine hK.out _ _ (hHeld) (fun hHeld=>?_);clear hK;try simp only [NR]
     refine wpAnyH_ready (rs:=[8]) (by kernel_rfl) (by simp) ?_;refine ac rfl fun K hK=>?_;rw [if_pos (by rfl)];go_simp;refine hK.out _ _ (hHeld) (fun hHeld=>?_);clear hK;try simp only [NR]
     refine wpAnyH_ready (rs:=[11]) (by kernel_rfl) (by simp) ?_;refine ac rfl fun K hK=>?_;rw [if_pos (by rfl)];go_simp;refine hK.out _ _ (hHeld) (fun hHeld=>?_);clear hK;try simp only [NR]
     refine tk 12 rfl ?_ ?_ ?_;rotate_left 1
     ·intro w hS;go_simp;all_goals with_reducible rfl
     try simp only [NR]
     refine tk 13 rfl ?_ ?_ ?_;rotate_left 1
     ·intro w hS;go_simp;all_goals with_reducible rfl
     try simp only [NR]
     refine tk 14 rfl ?_ ?_ ?_;rotate_left 1
     ·intro w hS;go_simp;all_goals with_reducible rfl
     try simp only [NR]
     refine wpAnyH_ready (rs:=[15]) (by kernel_rfl) (by simp) ?_;refine ac rfl fun K hK=>?_;rw [if_pos (by rfl)];go_simp;refine hK.out _ _ (HK.out _) (fun hHeld=>?_);clear hK;try simp only [NR]
     refine wpAnyH_done (by kernel_rfl) ?_ _
    rotate_left 1;refine ac rfl fun K hK=>?_;rw [if_pos (by rfl)];go_simp;refine hK.out _ _ (hHeld) (fun hHeld=>?_);clear hK;try simp only [NR]
    refine wpAnyH_ready (rs:=[4,11]) (by kernel_rfl) (by simp) ?_;refine AllReadyH.cons (o:=_) rfl (fun K hK=>?_) ?_;focus
     rw [if_pos (by rfl)];go_simp;refine hK.out _ _ (hHeld) (fun hHeld=>?_);clear hK;try simp only [NR]
     refine wpAnyH_ready (rs:=[11]) (by kernel_rfl) (by simp) ?_;refine ac rfl fun K hK=>?_;rw [if_pos (by rfl)];go_simp;refine hK.out _ _ (hHeld) (fun hHeld=>?_);clear hK;try simp only [NR]
     refine tk 12 rfl ?_ ?_ ?_;rotate_left 1
     ·intro w hS;go_simp;all_goals with_reducible rfl
     try simp only [NR]
     refine tk 13 rfl ?_ ?_ ?_;rotate_left 1
     ·intro w hS;go_simp;all_goals with_reducible rfl
     try simp only [NR]
     refine tk 14 rfl ?_ ?_ ?_;rotate_left 1
     ·intro w hS;go_simp;all_goals with_reducible rfl
     try simp only [NR]
     refine wpAnyH_ready (rs:=[15]) (by kernel_rfl) (by simp) ?_;refine ac rfl fun K hK=>?_;rw [if_pos (by rfl)];go_simp;refine hK.out _ _ (HK.out _) (fun hHeld=>?_);clear hK;try simp only [NR]
     refine wpAnyH_done (by kernel_rfl) ?_ _
    rotate_left 1;refine ac rfl fun K hK=>?_;rw [if_pos (by rfl)];go_simp;refine hK.out _ _ (hHeld) (fun hHeld=>?_);clear hK;try simp only [NR]
    refine wpAnyH_ready (rs:=[4]) (by kernel_rfl) (by simp) ?_;refine ac rfl fun K hK=>?_;rw [if_pos (by rfl)];go_simp;refine hK.out _ _ (hHeld) (fun hHeld=>?_);clear hK;try simp only [NR]
    refine tk 12 rfl ?_ ?_ ?_;rotate_left 1
    ·intro w hS;go_simp;all_goals with_reducible rfl
    try simp only [NR]
    refine tk 13 rfl ?_ ?_ ?_;rotate_left 1
    ·intro w hS;go_simp;all_goals with_reducible rfl
    try simp only [NR]
    refine tk 14 rfl ?_ ?_ ?_;rotate_left 1
    ·intro w hS;go_simp;all_goals with_reducible rfl
    try simp only [NR]
    refine wpAnyH_ready (rs:=[15]) (by kernel_rfl) (by simp) ?_;refine ac rfl fun K hK=>?_;rw [if_pos (by rfl)];go_simp;refine hK.out _ _ (HK.out _) (fun hHeld=>?_);clear hK;try simp only [NR]
    refine wpAnyH_done (by kernel_rfl) ?_ _;all_goals
     obtain ⟨w5,hw5⟩:∃W,W=(w4.setCell ⟨l,6,none⟩ (.int .u64 (g.usg - min g.usg v.b))).drew:=⟨_,rfl⟩;have HI5:=qq (show SpIn N w l A B w.heap.size v.cells w5 g3 by rw [hw5];exact (HI4.out.put 6 (.int .u64 (g.usg - min g.usg v.b)) g3 (by rw [HG2.out,HG3.out];rfl) (by rw [HG2.out,HG3.out]) (by rw [HG2.out,HG3.out])).drew);rw [←hw5];clear hw5 c6 s2 HK jw;have HPD:=qq fun (x:Bool)=>(HI5.out.put 7 (.bool x) {g3 with paused:=x} rfl rfl rfl).drew
     have HKS:=qq fun (W:World) (x:Bool) (hi:SpIn N w l A B w.heap.size v.cells W {g3 with paused:=x})=>(show W.cell? ⟨l,5,none⟩=some (.int .u64 g.size)∧W.cell? ⟨l,6,none⟩=some (.int .u64 (g.usg - min g.usg v.b))∧W.frozen? ⟨l,7,none⟩=false from
      ⟨by rw [show g.size=g3.size by rw [HG3.out]];exact hi.k 5,by rw [show g.usg - min g.usg v.b=g3.usg by rw [HG3.out]];exact hi.k 6,hi.y 7⟩)
     have s0:=HKS.out _ g3.paused HI5.out.drew;have s1:=qq fun (x:Bool)=>HKS.out _ x (HPD.out x);have x7:w5.cell? ⟨l,7,none⟩=some (.bool g3.paused):=HI5.out.k 7;go_wp2_with fail
     go_region_held3 (fun W=>W.cell? ⟨l,5,none⟩=some (.int .u64 g.size)∧W.cell? ⟨l,6,none⟩=some (.int .u64 (g.usg - min g.usg v.b))∧W.frozen? ⟨l,7,none⟩=false)
      (first
       |(with_reducible exact s0)
       |(with_reducible exact s1.out _))
      (fail)
     go_wp2;go_ret;refine ⟨rfl,?_⟩;rw [HAP.out];exact HFIN.out _ _ (HPD.out _)
end
def NextR (N:Nat) (w:World) (X:Option (LAns×LgL)) (g:LgL) (e:Ending) (w':World):Prop:=
 ∃(t:SlV) (bb:Bool),e=.returned (.tuple #[.slice t.A t.n t.c,.bool bb])∧Upd No w w'∧(X=none→bb=false)∧(∀An g',X=some (An,g')→bb=true∧Jh N w' t An.es∧An= {LAns.none with es:=An.es}∧g'=g)
def AskR (N:Nat) (w:World) (ab:Nat) (X:Option (LAns×LgL)) (g:LgL) (e:Ending) (w':World):Prop:=
 ∃(V:Ja) (bb:Bool),e=.returned (.bool bb)∧Blk w' ab 48 V.cells∧Upd (fun k=>k=ab) w w'∧(X=none→bb=false)∧(∀An g',X=some (An,g')→bb=true∧V.Rd N w' An∧g'=g)
section
variable {N:Nat} {w w' w0:World} {S:Nat→Prop} {A:StK} {s:StL} {B:TlK} {u:TlL} {l p:Nat} {g g':LgL} {cs:Array Value}
theorem spRange (h:Ka N w l A B g) (hs:g.Sm) (ho:g.Ok) {lo hi:Int}:
  Calls Tryz.prog 67 #[.pointer (some ⟨l,0,none⟩),.int .u64 lo,.int .u64 hi] w fun e w'=>∃(t:SlV) (bb:Bool),e=.returned (.tuple #[.slice t.A t.n t.c,.bool bb])∧Upd No w w'∧(g.rangeB lo hi=none→bb=false)∧(∀es,g.rangeB lo hi=some es→bb=true∧Jh N w' t es):=by
 by_cases hno:lo<g.first∨g.last+1<hi∨hi<lo
 ·have hr:g.rangeB lo hi=none:=by unfold LgL.rangeB;rw [if_pos hno]
  exact (spRange_no h hs hno).mono fun _ _ ⟨h1,h2⟩=>⟨⟨none,0,0⟩,false,h1,h2,fun _=>rfl,fun es he=>by rw [hr] at he;cases he⟩
 ·have hr:g.rangeB lo hi=some (g.range lo hi):=by unfold LgL.rangeB;rw [if_neg hno]
  exact (spRange_yes h hs ho (by omega) (by omega) (by omega)).mono fun _ _ ⟨t,h1,h2,h3⟩=>⟨t,true,h1,h3,fun he=>(by rw [hr] at he;cases he),fun es he=>by rw [hr] at he;cases he;exact ⟨rfl,h2⟩⟩
theorem spNextS (h:Ka N w l A B g) (hs:g.Sm) (ho:g.Ok) (f:Bool):
  Calls Tryz.prog 65 #[.pointer (some ⟨l,0,none⟩),.bool f] w fun e w'=>NextR N w (g.nextS f) g e w':=by
 have c7:w.cell? ⟨l,7,none⟩=some (.bool g.paused):=h.c 7;have c1:w.cell? ⟨l,1,none⟩=some (pp B.b):=h.c 1;have b8:w.cell? ⟨B.b,8,none⟩=some (.bool g.u.has):=h.tl.c 8;have c3:w.cell? ⟨l,3,none⟩=some (.int .u64 g.apg):=h.c 3;have c5:w.cell? ⟨l,5,none⟩=some (.int .u64 g.size):=h.c 5;have c6:w.cell? ⟨l,6,none⟩=some (.int .u64 g.usg):=h.c 6;have HM:=qq fun (n:Nat)=>spMost (h.drewN n) hs ho.u.o1 f;have HRG:=qq fun (W:World) (hu:Upd No w W)=>spRange (lo:=g.apg+1) (hi:=g.most f+1) (h.no hu) hs ho;have U0:=qq fun (n:Nat)=>(Upd.refl No w).drewN n;have hmb:g.most f≤g.com:=by unfold LgL.most;split<;>omega
 have hml: -1≤g.most f:=by have:=ho.a0;have:=ho.a1;have:=ho.a2;have:=ho.u.o1;unfold LgL.most;split<;>omega
 have hcl:=ho.c1;have hlb:=ho.last_lt;have ha0:0≤g.apg:=by have:=ho.a0;have:=ho.a1;omega
 have ha2:=ho.a2;by_cases hp:g.paused=true∨g.u.has=true
 ·have hr:g.nextS f=some (LAns.none,g):=by unfold LgL.nextS;rw [if_pos hp]
  have HF:=qq fun (W:World) (hu:Upd No w W)=>(show NextR N w (g.nextS f) g (.returned (.tuple #[.slice none 0 0,.bool true])) W from
   ⟨⟨none,0,0⟩,true,rfl,hu,fun he=>(by rw [hr] at he;cases he),fun An g' he=>by rw [hr] at he;cases he;exact ⟨rfl,Jg.nil none,rfl,rfl⟩⟩)
  generalize g.u.has=hb at*;generalize g.paused=pb at*;generalize g.nextS f=X at*;clear h hs ho hr HM HRG;rcases pb with _|_
  ·have:hb=true:=by rcases hp with h|h;cases h;exact h
   subst this;clear hp;go_enter Tryz.func65,Tryz.ntmps65;go_wp2;go_ret2;exact HF.out _ (U0.out 0)
  ·clear hp;go_enter Tryz.func65,Tryz.ntmps65;go_wp2;go_ret2;exact HF.out _ (U0.out 0)
 ·have hp1:g.paused=false:=by rcases h:g.paused with _|_;rfl;exact absurd (.inl h) hp
  have hp2:g.u.has=false:=by rcases h:g.u.has with _|_;rfl;exact absurd (.inr h) hp
  rw [hp1] at c7;rw [hp2] at b8;by_cases hm:g.most f≤g.apg
  ·have hr:g.nextS f=some (LAns.none,g):=by unfold LgL.nextS;rw [if_neg hp,if_pos hm]
   have HF:=qq fun (W:World) (hu:Upd No w W)=>(show NextR N w (g.nextS f) g (.returned (.tuple #[.slice none 0 0,.bool true])) W from
    ⟨⟨none,0,0⟩,true,rfl,hu,fun he=>(by rw [hr] at he;cases he),fun An g' he=>by rw [hr] at he;cases he;exact ⟨rfl,Jg.nil none,rfl,rfl⟩⟩)
   have hd:decide (g.most f+1≤g.apg+1)=true:=decide_eq_true (by omega);generalize g.nextS f=X at*;generalize g.most f=m at*;clear h hs ho hr HRG hp hp1 hp2;go_enter Tryz.func65,Tryz.ntmps65;go_wp2_with fail
   go_quiet ((go_at_call 60;exact Ji (HM.out _)))
   go_wp2;go_ret2;exact HF.out _ (U0.out _)
  ·by_cases hz:g.size≤g.usg
   ·have hr:g.nextS f=none:=by unfold LgL.nextS;rw [if_neg hp,if_neg hm,if_pos hz]
    have HF:=qq fun (W:World) (hu:Upd No w W)=>(show NextR N w (g.nextS f) g (.returned (.tuple #[.slice none 0 0,.bool false])) W from
     ⟨⟨none,0,0⟩,false,rfl,hu,fun he=>rfl,fun An g' he=>by rw [hr] at he;cases he⟩)
    have hd:decide (g.most f+1≤g.apg+1)=false:=decide_eq_false (by omega);have hd2:decide (g.size≤g.usg)=true:=decide_eq_true hz;generalize g.nextS f=X at*;generalize g.most f=m at*;clear h hs ho hr HRG hp hp1 hp2;go_enter Tryz.func65,Tryz.ntmps65;go_wp2_with fail
    go_quiet ((go_at_call 60;exact Ji (HM.out _)))
    go_wp2_with fail
    obtain ⟨w2,hw2⟩:∃W,W=w.drewN nq:=⟨_,rfl⟩;have U2:=qq (show Upd No w w2 by rw [hw2];exact U0.out nq);have c5:w2.cell? ⟨l,5,none⟩=some (.int .u64 g.size):=by rw [hw2];exact c5
    have c6:w2.cell? ⟨l,6,none⟩=some (.int .u64 g.usg):=by rw [hw2];exact c6
    rw [←hw2];clear hw2;go_quiet (fail)
    go_wp2;go_ret2;exact HF.out _ (U2.out.drewN _)
   ·have hr:g.nextS f=(g.rangeB (g.apg+1) (g.most f+1)).map fun e=>({LAns.none with es:=e},g):=by unfold LgL.nextS;rw [if_neg hp,if_neg hm,if_neg hz]
    have HF:=qq fun (W:World) (t:SlV) (bb:Bool) (hu:Upd No w W) (h1:g.rangeB (g.apg+1) (g.most f+1)=none→bb=false) (h2:∀es,g.rangeB (g.apg+1) (g.most f+1)=some es→bb=true∧Jh N W t es)=>(show NextR N w (g.nextS f) g (.returned (.tuple #[t.v,.bool bb])) W from by
     rcases hx:g.rangeB (g.apg+1) (g.most f+1) with _|es
     ·rw [hx] at hr;exact ⟨t,bb,rfl,hu,fun _=>h1 hx,fun An g' he=>by rw [hr] at he;cases he⟩
     ·rw [hx] at hr
      exact ⟨t,bb,rfl,hu,fun he=>(by rw [hr] at he;cases he),fun An g' he=>by rw [hr] at he;cases he;exact ⟨(h2 es hx).1,(h2 es hx).2,rfl,rfl⟩⟩)
    have hd:decide (g.most f+1≤g.apg+1)=false:=decide_eq_false (by omega);have hd2:decide (g.size≤g.usg)=false:=decide_eq_false hz;generalize g.nextS f=X at*;generalize g.rangeB (g.apg+1) (g.most f+1)=Y at*;generalize g.most f=m at*;clear h hs ho hr hp hp1 hp2;go_enter Tryz.func65,Tryz.ntmps65;go_wp2_with fail
    go_quiet ((go_at_call 60;exact Ji (HM.out _)))
    go_wp2_with fail
    obtain ⟨w2,hw2⟩:∃W,W=w.drewN nq:=⟨_,rfl⟩;have U2:=qq (show Upd No w w2 by rw [hw2];exact U0.out nq);have c5:w2.cell? ⟨l,5,none⟩=some (.int .u64 g.size):=by rw [hw2];exact c5
    have c6:w2.cell? ⟨l,6,none⟩=some (.int .u64 g.usg):=by rw [hw2];exact c6
    rw [←hw2];clear hw2;go_quiet (fail)
    go_wp2_with fail
    refine (HRG.out _ (U2.out.drewN _)).mono ?_;rintro r w3 ⟨t,bb,rfl,U3,h1,h2⟩;have HX:=qq (HF.out w3 t bb ((U2.out.drewN _).no U3) h1 h2);clear h1 h2 U3;go_wp2;go_ret2;exact HX.out
theorem Ja.cells_err (V:Ja) (x:Int):V.cells.setIfInBounds 0 (.int .i64 x)=({V with err:=x}:Ja).cells:=rfl
theorem Ja.cells_es (V:Ja) (t:SlV):V.cells.setIfInBounds 6 (.slice t.A t.n t.c)=({V with es:=t}:Ja).cells:=rfl
theorem spCut (h:Ka N w l A B g) (hs:g.Sm) (ho:g.Ok) {lo hi:Int} {ab:Nat} (hb:Blk w ab 48 Ja.nil.cells) (hN:N≤ab):
  Calls Tryz.prog 64 #[.pointer (some ⟨l,0,none⟩),.int .u64 lo,.int .u64 hi,.pointer (some ⟨ab,0,none⟩)] w fun e w'=>AskR N w ab (g.cut lo hi) g e w':=by
 have HFS:=qq (spFirst h hs.s hs.u);have HRG:=qq (spRange (lo:=lo) (hi:=hi) h hs ho);have HB:=qq hb;by_cases h1:hi<lo
 ·have hr:g.cut lo hi=none:=by unfold LgL.cut;rw [if_pos h1]
  rw [hr];clear h hs ho hr hb;go_enter Tryz.func64,Tryz.ntmps64;go_wp2;go_ret;exact ⟨Ja.nil,false,rfl,HB.out,Upd.refl _ _,fun _=>rfl,fun An g' he=>by cases he⟩
 ·by_cases h2:lo<g.first
  ·have hr:g.cut lo hi=some ({LAns.none with err:=1},g):=by unfold LgL.cut;rw [if_neg h1,if_pos h2]
   rw [hr];have k0:w.cell? ⟨ab,0,none⟩=some (.int .i64 0):=hb.cell 0;have y0:=hb.frozen;have HE:=qq (show Blk (w.setCell ⟨ab,0,none⟩ (.int .i64 1)) ab 48 ({Ja.nil with err:=1}:Ja).cells from hb.set_ 0 _);clear h hs ho hr hb;generalize g.first=f at*;go_enter Tryz.func64,Tryz.ntmps64;go_wp2_with fail
   refine HFS.out.mono ?_;rintro r w1 ⟨rfl,rfl⟩;go_wp2;go_ret;refine ⟨{Ja.nil with err:=1},true,rfl,HE.out,(Upd.refl (fun k=>k=ab) w).setIn rfl 0 _,fun he=>(by cases he),fun An g' he=>?_⟩;cases he;exact ⟨rfl,⟨rfl,rfl,rfl,rfl,rfl,rfl,Jg.nil none,SnV.Js _ _⟩,rfl⟩
  ·have hr:g.cut lo hi=(g.rangeB lo hi).map fun e=>({LAns.none with es:=e},g):=by unfold LgL.cut;rw [if_neg h1,if_neg h2]
   rw [hr];clear h hs ho hr hb;generalize g.first=f at*;generalize g.rangeB lo hi=Y at*;go_enter Tryz.func64,Tryz.ntmps64;go_wp2_with fail
   refine HFS.out.mono ?_;rintro r w1 ⟨rfl,rfl⟩;go_wp2_with fail
   refine HRG.out.mono ?_;rintro r w3 ⟨t,bb,rfl,U3,h3,h4⟩;have hb3:=HB.out.upd U3 (fun h=>h);have k6:w3.cell? ⟨ab,6,none⟩=some (.slice none 0 0):=hb3.cell 6;have y6:=hb3.frozen;have HB3:=qq hb3;have H3:=qq h3;have H4:=qq h4;have U3:=qq U3;clear h3 h4 hb3;go_wp2;go_ret;have hu:Upd (fun k=>k=ab) w3 (w3.setCell ⟨ab,6,none⟩ t.v):=(Upd.refl (fun k=>k=ab) w3).setIn rfl 6 _;have hf:=hu.fr (N:=N) (by rintro k rfl;exact HB3.out.mutb hN rfl);refine ⟨{Ja.nil with es:=t},bb,rfl,HB3.out.set_ 6 _,U3.out.ofNo.Ke hu,fun he=>?_,fun An g' he=>?_⟩
   ·rcases Y with _|es
    ·exact H3.out rfl
    ·cases he
   ·rcases Y with _|es
    ·cases he
    ·cases he;exact ⟨(H4.out _ rfl).1,⟨rfl,rfl,rfl,rfl,rfl,rfl,(H4.out _ rfl).2.fr hf,SnV.Js _ _⟩,rfl⟩
end
end Go.Proofs.YtmagnkjodjmojaaGreat
