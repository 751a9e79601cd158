/- A part of the proof of FnLog: laws and walks, with their conditions written at each. -/
import Derived.Test.YtmagnkjodjmojaaGreatQ16
import Derived.Test.YtmagnkjodjmojaaGreatQ22
set_option maxRecDepth 20000
set_option maxHeartbeats 4000000
set_option linter.all false
namespace Go.Proofs.YtmagnkjodjmojaaGreat
open Go.RowKit
theorem _root_.Go.Calls.toU {P:Program} {f:FuncId} {args:Array Value} {w:World} {v:Ending} (h:Calls P f args w fun e w'=>e=v∧∃n,w.drewN n=w'):Calls P f args w fun e w'=>e=v∧Upd No w w':=
 h.mono fun _ _ ⟨h1,n,h2⟩=>⟨h1,h2 ▸(Upd.refl No w).drewN n⟩
theorem _root_.Go.Calls.toU0 {P:Program} {f:FuncId} {args:Array Value} {w:World} {v:Ending} (h:Calls P f args w fun e w'=>e=v∧w=w'):Calls P f args w fun e w'=>e=v∧Upd No w w':=
 h.mono fun _ _ ⟨h1,h2⟩=>⟨h1,h2 ▸Upd.refl No w⟩
structure LgL.Sm (g:LgL):Prop where
 s:g.s.Sm
 u:g.u.Sm
theorem LgL.Sm.first_bd {g:LgL} (h:g.Sm):1≤g.first∧g.first≤4611686018427387904:=by
 have:=h.s.i0;have:=h.s.i1;have:=h.u.i0;have:=h.u.i1
 unfold LgL.first;unfold StL.first;split<;>omega
theorem LgL.Sm.last_bd {g:LgL} (h:g.Sm): -1≤g.last∧g.last≤4611686018427687904:=by
 have:=h.s.i0;have:=h.s.i1;have:=h.u.i0;have:=h.u.i1;have:=h.u.o0;have:=h.u.o1;have:=h.u.len;have:=h.s.len
 unfold LgL.last;split
 ·unfold TlL.end_;omega
 split
 ·omega
 ·unfold StL.last;omega
theorem LgL.Sm.last_nn {g:LgL} (h:g.Sm):0≤g.last:=by
 have:=h.s.i0;have:=h.s.i1;have:=h.u.i0;have:=h.u.i1;have:=h.u.o0;have:=h.u.o1;have:=h.u.len;have:=h.s.len
 unfold LgL.last;split
 ·unfold TlL.end_;omega
 split
 ·omega
 ·unfold StL.last;omega
def LgL.termX (g:LgL) (i:Int):Int×Int:=if i=18446744073709551615 then (0,1) else g.term i
theorem LgL.termX_eq {g:LgL} {i:Int} (h:i<18446744073709551615):g.termX i=g.term i:=by unfold LgL.termX;rw [if_neg (by omega)]
theorem LgL.Sm.term_far {g:LgL} (h:g.Sm):g.u.term 18446744073709551615=none:=by
 have:=h.u.i1;have:=h.u.o1;have:=h.u.len
 refine TlL.term_none ?_ ?_
 ·unfold TlL.end_;omega
 ·omega
theorem inf33:(Tryz.prog.info? 33).map (·.size)=some 2:=by kernel_rfl
section
variable {N:Nat} {w w':World} {S:Nat→Prop} {I:StK} {s:StL} {B:TlK} {u:TlL} {l:Nat} {g:LgL}
theorem spTerm (h:Ka N w l I B g) (hs:g.Sm) {i:Int} (hi0:0≤i) (hi:i<18446744073709551616):
  Calls Tryz.prog 59 #[.pointer (some ⟨l,0,none⟩),.int .u64 i] w fun e w'=>e=.returned (.tuple #[.int .u64 (g.termX i).1,.int .i64 (g.termX i).2])∧∃n,w.drewN n=w':=by
 have c0:w.cell? ⟨l,0,none⟩=some (pp I.b):=h.c 0;have c1:w.cell? ⟨l,1,none⟩=some (pp B.b):=h.c 1;have H1:=qq (spTlTerm h.tl hs.u hi0 hi);have H2:=qq fun n=>spFirst (h.drewN n) hs.s hs.u;have H3:=qq fun n=>spLast (h.drewN n) hs.s hs.u;have H4:=qq fun n=>spStTerm (h.st.drewN n) hs.s hi0 hi;have hfb:=hs.first_bd;by_cases hx:i=18446744073709551615
 ·subst hx;have hX:g.termX 18446744073709551615=(0,1):=rfl;rw [hX];have ht:=hs.term_far;rw [ht] at H1;simp only [Option.getD_none,Option.isSome_none] at H1;clear h hs hX ht;generalize g.first=f at*;have hff:(0:Int)<f:=by omega
  have hwr:IntKind.u64.wrap 18446744073709551616=0:=by decide
  go_enter Tryz.func59,Tryz.ntmps59;go_wp2_with fail
  refine H1.out.mono ?_;rintro r w' ⟨rfl,n,rfl⟩;go_wp2_with fail
  refine (H2.out _).mono ?_;rintro r w' ⟨rfl,rfl⟩;go_wp2;go_ret2;exact ⟨rfl,_,rfl⟩
 ·rw [LgL.termX_eq (by omega)];have hi2:i+1<18446744073709551616:=by omega
  rcases ht:g.u.term i with _|t
  ·rw [ht] at H1;simp only [Option.getD_none,Option.isSome_none] at H1;have hT:g.term i=if i+1<g.first then (0,1) else if g.last<i then (0,3) else g.s.term i:=by unfold LgL.term;rw [ht]
   rw [hT];clear h hs hT ht;generalize g.first=f at*;generalize g.last=la at*;by_cases h1:i+1<f
   ·rw [if_pos h1];go_enter Tryz.func59,Tryz.ntmps59;go_wp2_with fail
    refine H1.out.mono ?_;rintro r w' ⟨rfl,n,rfl⟩;go_wp2_with fail
    refine (H2.out _).mono ?_;rintro r w' ⟨rfl,rfl⟩;go_wp2;go_ret2;exact ⟨rfl,_,rfl⟩
   ·rw [if_neg h1];by_cases h2:la<i
    ·rw [if_pos h2];go_enter Tryz.func59,Tryz.ntmps59;go_wp2_with fail
     refine H1.out.mono ?_;rintro r w' ⟨rfl,n,rfl⟩;go_wp2_with fail
     refine (H2.out _).mono ?_;rintro r w' ⟨rfl,rfl⟩;go_wp2_with fail
     refine (H3.out _).mono ?_;rintro r w' ⟨rfl,m,rfl⟩;go_wp2;go_ret2;exact ⟨rfl,_,rfl⟩
    ·rw [if_neg h2]
     have H4':=qq fun (n:Nat)=>(show Calls Tryz.prog 51 #[pp I.b,.int .u64 i] (w.drewN n) fun e w'=>e=.returned (.tuple #[.int .u64 (g.s.term i).1,.int .i64 (g.s.term i).2])∧∃n,w.drewN n=w' from
      (H4.out n).mono fun _ _ ⟨h1,k,h2⟩=>⟨h1,n+k,by rw [←h2,World.drewN_drewN]⟩)
     clear H4;generalize g.s.term i=st at*;go_enter Tryz.func59,Tryz.ntmps59;go_wp2_with fail
     refine H1.out.mono ?_;rintro r w' ⟨rfl,n,rfl⟩;go_wp2_with fail
     refine (H2.out _).mono ?_;rintro r w' ⟨rfl,rfl⟩;go_wp2_with fail
     refine (H3.out _).mono ?_;rintro r w' ⟨rfl,m,rfl⟩;go_wp2_with fail
     refine (H4'.out _).mono ?_;rintro r w' ⟨rfl,k,rfl⟩;go_wp2;go_ret2;exact ⟨rfl,_,rfl⟩
  ·rw [ht] at H1;simp only [Option.getD_some,Option.isSome_some] at H1;have hT:g.term i=(t,0):=by unfold LgL.term;rw [ht]
   rw [hT];clear h hs hT ht;go_enter Tryz.func59,Tryz.ntmps59;go_wp2_with fail
   refine H1.out.mono ?_;rintro r w' ⟨rfl,n,rfl⟩;go_wp2;go_ret2;exact ⟨rfl,_,rfl⟩
def LgL.matchX (g:LgL) (t i:Int):Bool:=decide ((g.termX i).2=0) && decide ((g.termX i).1=t)
theorem LgL.matchX_eq {g:LgL} {t i:Int} (h:i<18446744073709551615):g.matchX t i=g.matches t i:=by unfold LgL.matchX LgL.matches;rw [LgL.termX_eq h]
theorem spMatch (h:Ka N w l I B g) (hs:g.Sm) {t i:Int} (hi0:0≤i) (hi:i<18446744073709551616):
  Calls Tryz.prog 25 #[.pointer (some ⟨l,0,none⟩),.agg #[.int .u64 t,.int .u64 i]] w fun e w'=>e=.returned (.bool (g.matchX t i))∧Upd No w w':=by
 have HT:=qq fun (o:Obj)=>spTerm (h.no ((Upd.refl No w).alloc o)) hs hi0 hi;have U0:=qq fun (o:Obj) (n:Nat)=>((Upd.refl No w).alloc o).drewN n;unfold LgL.matchX;clear h hs;generalize g.termX i=x at*;obtain ⟨x1,x2⟩:=x;simp only at*;go_enter Tryz.func25,Tryz.ntmps25;go_wp2_with fail
 refine (HT.out _).mono ?_;rintro r w' ⟨rfl,n,rfl⟩;by_cases h0:x2=0
 ·subst h0;go_wp2;go_ret;exact ⟨by simp [eq_comm,Bool.beq_eq_decide_eq],U0.out _ _⟩
 ·have h1:(x2==0)=false:=beq_eq_false_iff_ne.2 h0;go_wp2;go_ret;exact ⟨by simp [h0],U0.out _ _⟩
theorem SpTl.till (h:SpTl N w B u):w.cell? ⟨B.b,12,none⟩=some (.int .u64 u.till):=h.c 12
theorem spMost (h:Ka N w l I B g) (hs:g.Sm) (ho:1≤g.u.off) (f:Bool):
  Calls Tryz.prog 60 #[.pointer (some ⟨l,0,none⟩),.bool f] w fun e w'=>e=.returned (.int .u64 (g.most f))∧∃n,w.drewN n=w':=by
 have c1:w.cell? ⟨l,1,none⟩=some (pp B.b):=h.c 1;have c2:w.cell? ⟨l,2,none⟩=some (.int .u64 g.com):=h.c 2;have c10:w.cell? ⟨B.b,10,none⟩=some (.int .u64 g.u.off):=h.tl.c 10;have o1:=hs.u.o1;unfold LgL.most;clear h hs;rcases f with _|_
 ·simp only [Bool.false_eq_true,if_false];go_enter Tryz.func60,Tryz.ntmps60;go_wp2_with fail
  go_quiet (fail)
  go_wp2
  ·go_ret;exact ⟨by simp;omega,_,rfl⟩
  ·go_wp2;go_ret;exact ⟨by simp;omega,_,rfl⟩
 ·simp only [if_true];go_enter Tryz.func60,Tryz.ntmps60;go_wp2;go_ret;exact ⟨rfl,0,rfl⟩
theorem spLastID (h:Ka N w l I B g) (hs:g.Sm):
  Calls Tryz.prog 63 #[.pointer (some ⟨l,0,none⟩)] w fun e w'=>e=.returned (.agg #[.int .u64 g.lastT,.int .u64 g.last])∧Upd No w w':=by
 have hb:=hs.last_bd;have hb2:=hs.last_nn;have HL:=qq fun (W:World) (hu:Upd No w W)=>(spLast (h.no hu) hs.s hs.u).toU;have HT:=qq fun (W:World) (hu:Upd No w W)=>(spTerm (h.no hu) hs hb2 (show g.last<18446744073709551616 by omega)).toU;have U0:=qq fun (o:Obj)=>((Upd.refl No w).alloc o);rw [LgL.termX_eq (by omega)] at HT;unfold LgL.lastT;clear h hs;generalize g.last=la at*;generalize g.term la=x at*;obtain ⟨x1,x2⟩:=x;simp only at*;go_enter Tryz.func63,Tryz.ntmps63;go_wp2_with fail
 refine (HL.out _ (U0.out _)).mono ?_;rintro r w1 ⟨rfl,U1⟩;have B1:=(Blk.new w 33 #[.int .u64 0,.int .u64 0]).upd U1 (fun h=>h);have U1:=qq ((U0.out _).no U1);have HB1:=qq B1;clear B1;go_wp2_with fail
 refine (HT.out _ U1.out).mono ?_;rintro r w2 ⟨rfl,U2⟩;have HB2:=qq (HB1.out.upd U2 (fun h=>h));have U2:=qq (U1.out.no U2);go_wp2_with fail
 refine (HL.out _ U2.out).mono ?_;rintro r w3 ⟨rfl,U3⟩;have hb3:=HB2.out.upd U3 (fun h=>h);have z0:w3.cell? ⟨w.heap.size,0,none⟩=some (.int .u64 0):=hb3.cell 0;have z1:w3.cell? ⟨w.heap.size,1,none⟩=some (.int .u64 0):=hb3.cell 1;have y0:=hb3.frozen;have U3:=qq (U2.out.no U3);have HB4:=qq ((hb3.set_ 0 (.int .u64 x1)).set_ 1 (.int .u64 la));clear hb3;go_wp2;refine ret_blk rfl w.heap.size 33 #[.int .u64 x1,.int .u64 la] _ rfl HB4.out Tryz.underlying33 rfl inf33 rfl ?_;exact ⟨rfl,(U3.out.setCell (.inr (Nat.le_refl _)) _).setCell (.inr (Nat.le_refl _)) _⟩
end
section
variable {N:Nat} {w w':World} {S:Nat→Prop} {I:StK} {s:StL} {B:TlK} {u:TlL} {l:Nat} {g:LgL}
theorem rowB_no {es:List Ent} {k:Nat} (hk:k<es.length) (h:¬rowAt es k):rowB es=false:=by
 unfold rowB;rw [decide_eq_false_iff_not];exact fun h2=>h (h2 k hk)
theorem rowB_yes {es:List Ent} (h:∀j,j<es.length→rowAt es j):rowB es=true:=by
 unfold rowB;rw [decide_eq_true_eq];exact h
theorem spRow {sl:SlV} {es:List Ent} (h:Jh N w sl es) (hu:AllU es) (hn:sl.n≤100000):
  Calls Tryz.prog 54 #[.slice sl.A sl.n sl.c] w fun e w'=>e=.returned (.bool (rowB es))∧∃n,w.drewN n=w':=by
 have hl:=h.len;have HH:=qq h;have HU:=qq hu;clear h hu;go_enter Tryz.func54,Tryz.ntmps54;go_wp2;go_loopw [3] (fun i wr=>∃k n:Nat,k≤sl.n∧i=.int .i64 (k:Nat)∧w.drewN n=wr∧Hid (∀j,j<k→rowAt es j)) (fun i _=>sl.n - (intOf i).toNat)
 case atStart=>exact ⟨0,0,Nat.zero_le _,rfl,rfl,qq fun j hj=>absurd hj (by omega)⟩
 case round=>
  obtain ⟨k,n,hk,rfl,rfl,hrow⟩:=hrel;by_cases hlt:k<sl.n
  ·obtain ⟨b,o,hA,_,k0,k1,_⟩:=HH.out.at4 hlt;have he:=HU.out k (by omega);rw [hA];have HR:=qq fun (h:¬rowAt es k)=>rowB_no (by omega) h
   have HS:=qq fun (h:rowAt es k)=>(show ∀j,j<k+1→rowAt es j from fun j hj=>by
    rcases Nat.lt_or_ge j k with h1|h1
    ·exact hrow.out j h1
    ·obtain rfl:j=k:=by omega
     exact h)
   have HE:rowAt es k ↔ ((es.getD k default).index≠0∧(es.getD k default).index<4611686018427387904∧(es.getD k default).term<4611686018427387904∧(0<k→(es.getD k default).index=(es.getD (k - 1) default).index+1)):=Iff.rfl;have hI0:=he.i0;have hI1:=he.i1;have hT0:=he.t0;have hT1:=he.t1;by_cases hk0:k=0
   ·subst hk0;simp only [Nat.lt_irrefl,false_implies,and_true] at HE;rw [show ((0:Nat):Int)=0 from rfl];rw [Nat.zero_mul,Nat.add_zero] at k0 k1;generalize es.getD 0 default=e at*;by_cases h1:e.index=0
    ·have hr:=HR.out (fun h=>by have h:=HE.1 h;omega);have hq:(e.index==0)=true:=beq_iff_eq.2 h1;clear HE HR HS he hrow;go_wp2_with fail
     go_quiet (fail)
     go_wp2;go_ret;exact ⟨by simp [hr],_,(World.drewN_drewN _ _ _).symm⟩
    ·have hq:(e.index==0)=false:=beq_eq_false_iff_ne.2 h1;by_cases h2:4611686018427387904≤e.index
     ·have hr:=HR.out (fun h=>by have h:=HE.1 h;omega);have hd2:decide (4611686018427387904≤e.index)=true:=decide_eq_true h2;clear HE HR HS he hrow;go_wp2_with fail
      go_quiet (fail)
      go_wp2;go_ret;exact ⟨by simp [hr],_,(World.drewN_drewN _ _ _).symm⟩
     ·have hd2:decide (4611686018427387904≤e.index)=false:=decide_eq_false h2;by_cases h3:4611686018427387904≤e.term
      ·have hr:=HR.out (fun h=>by have h:=HE.1 h;omega);have hd3:decide (4611686018427387904≤e.term)=true:=decide_eq_true h3;clear HE HR HS he hrow;go_wp2_with fail
       go_quiet (fail)
       go_wp2;go_ret;exact ⟨by simp [hr],_,(World.drewN_drewN _ _ _).symm⟩
      ·have hd3:decide (4611686018427387904≤e.term)=false:=decide_eq_false h3;have hr:=HS.out (HE.2 (by omega));have HF:=qq hr;clear HE HR HS he hrow hr;go_wp2_with fail
       go_quiet (fail)
       go_wp2;exact ⟨⟨1,_,by omega,by simp,rfl,HF.out⟩,by simp [intOf];omega⟩
   ·obtain ⟨p,hp⟩:∃p,k=p+1:=⟨k - 1,by omega⟩;obtain ⟨b',o',hA',_,_,kp,_⟩:=HH.out.at4 (show p<sl.n by omega);rw [hA] at hA';injection hA' with hA'
    injection hA' with hb ho
    subst hb;subst ho;have hrp:=(hrow.out p (by omega)).2.1;have hep:=HU.out p (by omega);have hP0:=hep.i0;rw [show k - 1=p by omega] at HE;have HE:=HE.trans ⟨fun h=>(show (es.getD k default).index≠0∧(es.getD k default).index<4611686018427387904∧(es.getD k default).term<4611686018427387904∧((es.getD k default).index=(es.getD p default).index+1) from ⟨h.1,h.2.1,h.2.2.1,h.2.2.2 (by omega)⟩),fun h=>⟨h.1,h.2.1,h.2.2.1,fun _=>h.2.2.2⟩⟩;have j0:(0:Int)≤(k:Int) - 1:=by omega
    have j1:(k:Int) - 1<(sl.n:Int):=by omega
    have j3:((k:Int) - 1).toNat=p:=by omega
    have hkp:p<k:=by omega
    clear hp;unfold farI at hrp;generalize es.getD k default=e at*;generalize es.getD p default=q at*;by_cases h1:e.index=0
    ·have hr:=HR.out (fun h=>by have h:=HE.1 h;omega);have hq:(e.index==0)=true:=beq_iff_eq.2 h1;clear HE HR HS he hrow;go_wp2_with fail
     go_quiet (fail)
     go_wp2;go_ret;exact ⟨by simp [hr],_,(World.drewN_drewN _ _ _).symm⟩
    ·have hq:(e.index==0)=false:=beq_eq_false_iff_ne.2 h1;by_cases h2:4611686018427387904≤e.index
     ·have hr:=HR.out (fun h=>by have h:=HE.1 h;omega);have hd2:decide (4611686018427387904≤e.index)=true:=decide_eq_true h2;clear HE HR HS he hrow;go_wp2_with fail
      go_quiet (fail)
      go_wp2;go_ret;exact ⟨by simp [hr],_,(World.drewN_drewN _ _ _).symm⟩
     ·have hd2:decide (4611686018427387904≤e.index)=false:=decide_eq_false h2;by_cases h3:4611686018427387904≤e.term
      ·have hr:=HR.out (fun h=>by have h:=HE.1 h;omega);have hd3:decide (4611686018427387904≤e.term)=true:=decide_eq_true h3;clear HE HR HS he hrow;go_wp2_with fail
       go_quiet (fail)
       go_wp2;go_ret;exact ⟨by simp [hr],_,(World.drewN_drewN _ _ _).symm⟩
      ·have hd3:decide (4611686018427387904≤e.term)=false:=decide_eq_false h3;have hd4:decide ((0:Int)<(k:Int))=true:=decide_eq_true (by omega);have hd5:decide (0<k)=true:=decide_eq_true (by omega);have hd6:0<k:=by omega
       by_cases h4:e.index=q.index+1
       ·have hq4:(e.index==q.index+1)=true:=beq_iff_eq.2 h4;have hr:=HS.out (HE.2 (by omega));have HF:=qq hr;clear h4;clear HE HR HS he hrow hr;go_wp2_with fail
        go_quiet (fail)
        go_wp2;exact ⟨⟨k+1,_,by omega,by simp,rfl,HF.out⟩,by simp [intOf];omega⟩
       ·have hr:=HR.out (fun h=>by have h:=HE.1 h;omega);have hq4:(e.index==q.index+1)=false:=beq_eq_false_iff_ne.2 h4;clear HE HR HS he hrow;go_wp2_with fail
        go_quiet (fail)
        go_wp2;go_ret;exact ⟨by simp [hr],_,(World.drewN_drewN _ _ _).symm⟩
  ·obtain rfl:k=sl.n:=by omega
   have hr:rowB es=true:=rowB_yes fun j hj=>hrow.out j (by omega);go_wp2;go_ret;exact ⟨by simp [hr],_,rfl⟩
end
def LgL.conflictX (g:LgL):List Ent→Int
 |[]=>0
 |e::r=>if g.matchX e.term e.index=true then g.conflictX r else e.index
theorem LgL.conflictX_eq {g:LgL}:∀{es:List Ent},(∀e∈es,e.index<18446744073709551615)→g.conflictX es=g.conflict es
 |[],_=>rfl
 |e::r,h=>by
  show (if g.matchX e.term e.index=true then g.conflictX r else e.index)=(if g.matches e.term e.index=true then g.conflict r else e.index);rw [LgL.matchX_eq (h e (by simp)),LgL.conflictX_eq fun x hx=>h x (by simp [hx])]
theorem drop_cons_getD {es:List Ent} {k:Nat} (h:k<es.length):es.drop k=es.getD k default::es.drop (k+1):=by
 rw [List.drop_eq_getElem_cons h,List.getD_eq_getElem?_getD,List.getElem?_eq_getElem h];rfl
theorem rowB_idx {es:List Ent} (h:rowB es=true):∀e∈es,e.index<18446744073709551615:=by
 intro e he;obtain ⟨j,hj,rfl⟩:=List.getElem_of_mem he;have:=(row_at h j hj).2.2.1;rw [List.getD_eq_getElem?_getD,List.getElem?_eq_getElem hj] at this;rw [Option.getD_some] at this;have h2:es[j].index<4611686018427387904:=this;omega
section
variable {N:Nat} {w w':World} {S:Nat→Prop} {I:StK} {s:StL} {B:TlK} {u:TlL} {l:Nat} {g:LgL}
theorem spConflict (h:Ka N w l I B g) (hs:g.Sm) {sl:SlV} {es:List Ent} (he:Jh N w sl es) (hu:AllU es) (hn:sl.n≤100000):
  Calls Tryz.prog 58 #[.pointer (some ⟨l,0,none⟩),.slice sl.A sl.n sl.c] w fun e w'=>e=.returned (.int .u64 (g.conflictX es))∧Upd No w w':=by
 have hl:=he.len;have HH:=qq fun (W:World) (hu:Upd No w W)=>(show Jh N W sl es from he.fr hu.fr0);have HU:=qq hu;have HM:=qq fun (W:World) (hu:Upd No w W) (k:Nat) (hk:k<es.length)=>spMatch (t:=(es.getD k default).term) (h.no hu) hs (HU.out k hk).i0 (HU.out k hk).i1;clear h he hu;go_enter Tryz.func58,Tryz.ntmps58;go_wp2;go_loopw [5] (fun i wr=>∃k:Nat,k≤sl.n∧i=.int .i64 (k:Nat)∧Hid (Upd No w wr)∧Hid (g.conflictX es=g.conflictX (es.drop k))) (fun i _=>sl.n - (intOf i).toNat)
 case atStart=>exact ⟨0,Nat.zero_le _,rfl,qq (Upd.refl No w),qq rfl⟩
 case round=>
  obtain ⟨k,hk,rfl,hu,hx⟩:=hrel;by_cases hlt:k<sl.n
  ·obtain ⟨b,o,hA,_,k0,k1,_⟩:=(HH.out wr hu.out).at4 hlt;have HK:=qq fun (W:World) (hu2:Upd No wr W)=>(show W.cell? ⟨b,o+k*4,none⟩=some (.int .u64 (es.getD k default).term)∧W.cell? ⟨b,o+k*4+1,none⟩=some (.int .u64 (es.getD k default).index) from ⟨hu2.cell k0 (fun h=>h),hu2.cell k1 (fun h=>h)⟩);have HD:=qq (drop_cons_getD (show k<es.length by omega));have HM':=qq fun (W:World) (hu2:Upd No wr W)=>HM.out W (hu.out.no hu2) k (by omega);rw [hA];generalize es.getD k default=e at*;go_wp2_with fail
   go_region_held3 (fun W=>W.cell? ⟨b,o+k*4,none⟩=some (.int .u64 e.term)∧W.cell? ⟨b,o+k*4+1,none⟩=some (.int .u64 e.index))
    (first
     |(with_reducible exact HK.out _ (Upd.refl No _).drew)
     |(with_reducible exact HK.out _ U9.out))
    (first
     |(go_at_call 25
       refine (HM'.out _ (Upd.refl No _).drew).mono ?_;rintro r w9 ⟨rfl,U9⟩
       have U9:=qq (((Upd.refl No wr).drew).no U9)))
   have k1':=(HK.out w9 U9.out).2;have U8:=qq (hu.out.no U9.out);rcases hm:g.matchX e.term e.index with _|_
   ·have hr:g.conflictX es=e.index:=by rw [hx.out,HD.out];show (if g.matchX e.term e.index=true then _ else _)=_;rw [hm];rfl
    clear hm;go_wp2;go_ret;exact ⟨by simp [hr],U8.out⟩
   ·have hr:=qq (show g.conflictX es=g.conflictX (es.drop (k+1)) by rw [hx.out,HD.out];show (if g.matchX e.term e.index=true then _ else _)=_;rw [hm];rfl);clear hm;go_wp2;exact ⟨⟨k+1,by omega,by simp,U8,hr⟩,by simp [intOf];omega⟩
  ·obtain rfl:k=sl.n:=by omega
   have hr:g.conflictX es=0:=by rw [hx.out,List.drop_eq_nil_of_le (by omega)];rfl
   go_wp2;go_ret;exact ⟨by simp [hr],hu.out⟩
theorem spByTerm (h:Ka N w l I B g) (hs:g.Sm) {i t:Int} (hi0:0≤i) (hi:i<18446744073709551615):
  Calls Tryz.prog 62 #[.pointer (some ⟨l,0,none⟩),.int .u64 i,.int .u64 t] w fun e w'=>e=.returned (.tuple #[.int .u64 (g.byTerm t i.toNat).1,.int .u64 (g.byTerm t i.toNat).2])∧Upd No w w':=by
 have HT:=qq fun (W:World) (hu:Upd No w W) (k:Nat) (hk:((k+1:Nat):Int)≤i)=>(spTerm (i:=((k+1:Nat):Int)) (h.no hu) hs (by omega) (by omega)).toU;obtain ⟨m,rfl⟩:=Int.eq_ofNat_of_zero_le hi0;rw [Int.toNat_natCast];clear h hs;go_enter Tryz.func62,Tryz.ntmps62;go_wp2;go_loopw [8] (fun j wr=>∃k:Nat,k≤m∧j=.int .u64 (k:Nat)∧Hid (Upd No w wr)∧Hid (g.byTerm t m=g.byTerm t k)) (fun j _=>(intOf j).toNat)
 case atStart=>exact ⟨m,Nat.le_refl _,rfl,qq (Upd.refl No w),qq rfl⟩
 case round=>
  obtain ⟨k,hk,rfl,hu,hx⟩:=hrel;rcases k with _|k
  ·have hr:g.byTerm t m=(0,0):=hx.out;go_wp2;go_ret2;exact ⟨by simp [hr],hu.out⟩
  ·have HT1:=HT.out wr hu.out k (by omega);rw [LgL.termX_eq (by omega)] at HT1;have HB:g.byTerm t (k+1)=if (g.term ((k+1:Nat):Int)).2≠0 then (((k+1:Nat):Int),0) else if (g.term ((k+1:Nat):Int)).1≤t then (((k+1:Nat):Int),(g.term ((k+1:Nat):Int)).1) else g.byTerm t k:=rfl
   have hx:=qq (hx.out.trans HB);clear HB;replace HT1:=qq HT1;generalize g.term ((k+1:Nat):Int)=x at*;obtain ⟨x1,x2⟩:=x;simp only at*;have hk2:((k+1:Nat):Int)<18446744073709551616:=by omega
   have hk3:(0:Int)<((k+1:Nat):Int):=by omega
   have hk4:((k+1:Nat):Int) - 1=(k:Int):=by omega
   generalize hj:((k+1:Nat):Int)=j at*;have HJ:=qq hj;have HK:=qq hk;have HK4:=qq hk4;clear hj hi hi0 hk hk4;go_wp2_with fail
   refine HT1.out.mono ?_;rintro r w1 ⟨rfl,U1⟩;have U1:=qq (hu.out.no U1);by_cases h1:x2=0
   ·have hq:(x2==0)=true:=beq_iff_eq.2 h1;have hx:=qq (hx.out.trans (if_neg (by simpa using h1)));clear h1;by_cases h2:x1≤t
    ·have hr:=qq (hx.out.trans (if_pos h2));clear hx HT1 HT HJ;go_wp2;go_ret2;exact ⟨by simp [hr.out],U1.out⟩
    ·have hr:=qq (hx.out.trans (if_neg h2));go_wp2;have:=HK.out;have h4:=HK4.out;exact ⟨⟨k,by omega,by rw [←h4],U1,hr⟩,by simp [intOf];omega⟩
   ·have hq:(x2==0)=false:=beq_eq_false_iff_ne.2 h1;have hr:=qq (hx.out.trans (if_pos h1));clear hx HT1 HT HJ;go_wp2;go_ret2;exact ⟨by simp [hr.out],U1.out⟩
end
theorem StL.Ok.term_bd' {s:StL} (h:s.Ok) (i:Int):0≤(s.term i).1∧(s.term i).1<4611686018427387904:=by
 unfold StL.term;have:=h.t0;have:=h.t1;split
 ·simp
 split
 ·simp
 split
 ·simp only;omega
 ·rename_i h1 h2 h3
  obtain ⟨j,hj⟩:=Int.eq_ofNat_of_zero_le (show 0≤i - s.first by unfold StL.first;omega);have hl:j<s.L.length:=by unfold StL.first at hj;unfold StL.last at h2;omega
  simp only [hj,ent_nat];have:=h.ok j hl;exact ⟨this.t0,this.t1⟩
theorem getD_app_right {α:Type} {l r:List α} {d:α} {j:Nat} (h:l.length≤j):(l++r).getD j d=r.getD (j - l.length) d:=by
 simp [List.getD_eq_getElem?_getD,List.getElem?_append_right h]
theorem getD_take_lt {α:Type} {l:List α} {d:α} {j k:Nat} (h:j<k):(l.take k).getD j d=l.getD j d:=by
 simp [List.getD_eq_getElem?_getD,List.getElem?_take,h]
theorem row_join {a:Int} {L d:List Ent} {t:Nat} (ht:t≤L.length) (hL:∀j,j<L.length→(L.getD j default).index=a+j) (hd:∀j,j<d.length→(d.getD j default).index=a+t+j):
  ∀j,j<(L.take t++d).length→((L.take t++d).getD j default).index=a+j:=by
 intro j hj;have hlt:(L.take t).length=t:=by simp;omega
 rcases Nat.lt_or_ge j t with h|h
 ·rw [getD_app_lt (by omega),getD_take_lt h];exact hL j (by omega)
 ·rw [getD_app_right (by omega),hlt,hd (j - t) (by simp at hj;omega)];omega
theorem AllOk.join {L d:List Ent} {t:Nat} (hL:∀j,j<L.length→(L.getD j default).ok) (hd:∀j,j<d.length→(d.getD j default).ok):∀j,j<(L.take t++d).length→((L.take t++d).getD j default).ok:=by
 intro j hj;rcases Nat.lt_or_ge j (L.take t).length with h|h
 ·rw [getD_app_lt h];have:j<t∧j<L.length:=by simp at h;omega
  rw [getD_take_lt this.1];exact hL j this.2
 ·rw [getD_app_right h];exact hd _ (by simp at hj h ⊢;omega)
theorem StL.append_ok {s s':StL} {l:List Ent} (h:s.append l=some s') (hs:s.Ok) (hu:AllU l) (hl:l.length≤60) (hn:s.L.length+60≤20000):s'.Ok∧s'.L.length≤s.L.length+60:=by
 unfold StL.append at h;split at h
 ·rename_i h1
  obtain ⟨hrow,hgap⟩:=h1;have hr:=row_at hrow;have hok:=hu.ok hrow;have hdw:=dropW s.atI l (idx0 l) fun j hj=>(hr j hj).1;rw [hdw] at h;generalize hk:(s.atI+1 - idx0 l).toNat=k at*;split at h
  ·rename_i h2
   cases h;have hkl:k<l.length:=by simp at h2;omega
   have hd0:idx0 (l.drop k)=idx0 l+k:=by unfold idx0;rw [getD_drop];exact (hr _ (by omega)).1
   have hli:=s.last;have hg:=hs.last;unfold StL.last at hgap hg;have ht:(idx0 (l.drop k) - s.first).toNat≤s.L.length:=by rw [hd0];unfold StL.first;omega
   generalize htt:(idx0 (l.drop k) - s.first).toNat=t at*;have hde:idx0 l+k=s.atI+1+t:=by rw [hd0] at htt;unfold StL.first at htt;omega
   have hdl:(l.drop k).length=l.length - k:=by simp
   have hlast:=(hr (l.length - 1) (by omega));have hlen:(s.L.take t++l.drop k).length=t+(l.length - k):=by simp;omega
   refine ⟨⟨hs.i0,hs.t0,hs.t1,?_,?_,?_,?_,hs.cf,hs.d,hs.si,hs.si1,hs.st,hs.st1,hs.z⟩,?_⟩
   ·show s.atI+((s.L.take t++l.drop k).length:Int)<_;rw [hlen];omega
   ·intro j hj;have h9:=row_join (d:=l.drop k) (a:=s.atI+1) ht hs.idx (fun j hj=>by rw [getD_drop,(hr _ (by rw [hdl] at hj;omega)).1];omega) j hj;exact h9
   ·exact AllOk.join hs.ok fun j hj=>by rw [getD_drop];exact hok _ (by omega)
   ·show (s.L.take t++l.drop k).length≤_;rw [hlen];omega
   ·show (s.L.take t++l.drop k).length≤_;rw [hlen];omega
  ·cases h;exact ⟨hs,by omega⟩
 ·cases h
theorem SDo_ok {s s':StL} {c:SCall} {A:SAns} (h:SDo s c=some (A,s')) (hs:s.Ok) (hc:c.Ok) (hn:s.L.length+60≤20000):s'.Ok∧s'.L.length≤s.L.length+60:=by
 have same:s.Ok∧s.L.length≤s.L.length+60:=⟨hs,by omega⟩;unfold SDo at h;split at h
 ·rcases ha:s.append c.es with _|s1
  ·rw [ha] at h;cases h
  ·rw [ha] at h;cases h;exact StL.append_ok ha hs hc.es hc.len hn
 split at h
 ·unfold StL.compact at h;split at h
  ·cases h;exact same
  split at h
  ·cases h
  ·rename_i h1 h2
   cases h;have hb:=hs.term_bd' c.a;have hl:=hs.last;have hi0:=hs.i0;unfold StL.last at h2 hl;refine ⟨⟨hc.a0,hb.1,hb.2,?_,?_,?_,?_,hs.cf,hs.d,hs.si,hs.si1,hs.st,hs.st1,?_⟩,?_⟩
   ·show c.a+((s.L.drop (c.a - s.atI).toNat).length:Int)<_;simp;omega
   ·intro j hj;have hj2:j<(s.L.drop (c.a - s.atI).toNat).length:=hj;simp at hj2;show ((s.L.drop (c.a - s.atI).toNat).getD j default).index=c.a+1+j;rw [getD_drop,hs.idx _ (by omega)];omega
   ·intro j hj;have hj2:j<(s.L.drop (c.a - s.atI).toNat).length:=hj;simp at hj2;show ((s.L.drop (c.a - s.atI).toNat).getD j default).ok;rw [getD_drop];exact hs.ok _ (by omega)
   ·show (s.L.drop (c.a - s.atI).toNat).length≤_;simp;omega
   ·intro h;have:c.a=0:=h;omega
   ·show (s.L.drop (c.a - s.atI).toNat).length≤_;simp;omega
 split at h
 ·unfold StL.create at h;split at h
  ·cases h;exact same
  split at h
  ·cases h
  ·rename_i h1 h2
   cases h;have hb:=hs.term_bd' c.a;have hl:=hs.last;have ha0:=hc.a0;exact ⟨⟨hs.i0,hs.t0,hs.t1,hs.last,hs.idx,hs.ok,hs.len,hc.sm.1,hc.sm.2,ha0,(by show c.a<_;omega),hb.1,hb.2,hs.z⟩,by show s.L.length≤_;omega⟩
 split at h
 ·unfold StL.apply at h;split at h
  ·cases h
  split at h
  ·cases h;exact same
  ·rename_i h1 h2
   cases h;have hi0:=hc.i0;unfold farI at h1;refine ⟨⟨hc.i0,hc.t0,(by show c.snap.term<_;omega),?_,fun j hj=>absurd hj (Nat.not_lt_zero _),fun j hj=>absurd hj (Nat.not_lt_zero _),Nat.zero_le _,hc.sm.1,hc.sm.2,hc.i0,(by show c.snap.index<_;omega),hc.t0,(by show c.snap.term<_;omega),?_⟩,Nat.zero_le _⟩
   ·show c.snap.index+((([]:List Ent).length:Nat):Int)<_;simp;omega
   ·intro h;have:c.snap.index=0:=h;omega
 split at h
 ·unfold StL.entries at h;split at h
  ·split at h
   ·cases h;exact same
   ·cases h
  split at h
  ·cases h
  ·cases h;exact same
 split at h
 ·split at h
  ·cases h;exact same
  ·cases h
 split at h
 ·cases h;exact same
 split at h
 ·cases h;exact same
 split at h
 ·cases h;exact same
 ·cases h;exact same
theorem StL.zero_ok:StL.zero.Ok:=⟨by decide,by decide,by decide,by decide,fun j hj=>absurd hj (Nat.not_lt_zero _),fun j hj=>absurd hj (Nat.not_lt_zero _),Nat.zero_le _,⟨by decide,by decide,by decide,by decide⟩,by decide,by decide,by decide,by decide,by decide,fun _=>rfl⟩
structure LgL.Pre (g:LgL):Prop where
 s:g.s.Ok
 ok:AllOk g.u.es
 len:g.u.es.length≤20000
 sm:g.u.snap.small
 i0:0≤g.u.snap.index
 i1:g.u.snap.index<4611686018427387904
 t0:0≤g.u.snap.term
 o0:0≤g.u.off
 o1:g.u.off≤4611686018427387904
 l0:0≤g.u.till
 l1:g.u.till≤4611686018427447904
 a0:0≤g.apd
 z1:1≤g.size
 z2:g.size<4611686018427387904
 g0:0≤g.usg
 g2:g.usg<9223372036854775808
theorem LgL.Pre.isSm {g:LgL} (h:g.Pre):g.Sm:=by
 have:=h.s.last;have:=h.s.len;have:=h.len;have:=h.o1;have:=h.l1
 unfold StL.last at*;exact ⟨⟨h.s.i0,by omega,by omega⟩,⟨h.o0,by omega,by omega,h.i0,h.i1,h.l0,by omega⟩⟩
theorem TlL.Ok.small' {u:TlL} (h:u.Ok):u.snap.small:=⟨h.cf,h.d⟩
theorem LgL.Ok.pre {g:LgL} (h:g.Ok) (hi:0≤g.u.snap.index) (hi1:g.u.snap.index<4611686018427387904) (ht:0≤g.u.snap.term):g.Pre:=by
 have:=h.u.o1;have:=h.u.o2;have:=h.u.t1;have:=h.u.t2;have:=h.u.e2
 exact ⟨h.s,h.u.ok,h.u.len,h.u.small',hi,hi1,ht,by omega,by omega,by omega,by omega,h.a0,h.z1,h.z2,h.g0,h.g2⟩
theorem LgL.Pre.ok_of {g:LgL} (h:g.Pre) (hw:g.wholeB=true):g.Ok:=by
 unfold LgL.wholeB TlL.wholeB at hw;simp only [Bool.and_eq_true,decide_eq_true_eq,Bool.or_eq_true] at hw;obtain ⟨⟨⟨⟨⟨⟨⟨⟨hrow,ho0⟩,ho1⟩,hi0⟩,ht1⟩,ht2⟩,hsn⟩,hgap⟩,hc⟩:=hw;unfold farI at*;have hr:=row_at hrow;have hoff:=h.o0;have hidx:∀j,j<g.u.es.length→(g.u.es.getD j default).index=g.u.off+j:=fun j hj=>by
  rw [(hr j hj).1];rcases hi0 with h1|h1<;>omega
 have he2:g.u.end_≤4611686018427387904:=by
  unfold TlL.end_;rcases Nat.eq_zero_or_pos g.u.es.length with h1|h1
  ·omega
  ·have h2:=hr (g.u.es.length - 1) (by omega);have h3:=hidx (g.u.es.length - 1) (by omega);omega
 refine ⟨h.s,⟨hidx,h.ok,h.len,by omega,by omega,he2,ht1,ht2,fun hh=>?_,h.sm.1,h.sm.2,fun hh=>?_⟩,fun hh=>?_,hc.1,hc.2.1,h.a0,hc.2.2.1,hc.2.2.2,h.z1,h.z2,h.g0,h.g2⟩
 ·rw [if_pos hh] at hsn;simp only [decide_eq_true_eq] at hsn;have:=h.t0;omega
 ·rw [hh] at hsn;simpa using hsn
 ·rcases hgap with h1|h1
  ·rw [hh] at h1;cases h1
  ·exact h1
theorem Snap.zero_small:Snap.zero.small:=⟨⟨by decide,by decide,by decide,by decide⟩,by decide⟩
theorem LgL.fresh_ok {s:StL} {size:Int} (hs:s.Ok) (h1:1≤size) (h2:size<4611686018427387904):(LgL.fresh s size).Ok∧(LgL.fresh s size).Pre:=by
 have hl:=hs.last;have hi:=hs.i0;have hs1:s.last=s.atI+s.L.length:=rfl;have e1:(LgL.fresh s size).last=s.last:=rfl;have e2:(LgL.fresh s size).first=s.first:=rfl;have ho:(LgL.fresh s size).Ok:=by
  refine ⟨hs,⟨fun j hj=>absurd hj (Nat.not_lt_zero _),fun j hj=>absurd hj (Nat.not_lt_zero _),Nat.zero_le _,?_,?_,?_,?_,?_,fun hh=>(by cases hh),Snap.zero_small.1,Snap.zero_small.2,fun _=>rfl⟩,fun _=>⟨?_,?_,fun _=>rfl⟩,?_,?_,hi,Int.le_refl _,Int.le_refl _,h1,h2,Int.le_refl _,by show (0:Int)<_;decide⟩
  ·show 1≤s.last+1;omega
  ·show s.last+1≤_;omega
  ·show s.last+1+(0:Nat)≤_;omega
  ·show s.last+1≤s.last+1;omega
  ·show s.last+1≤s.last+1+(0:Nat);omega
  ·show s.last+1≤s.last+1;omega
  ·show s.atI+1≤s.last+1;omega
  ·rw [e1];show s.atI≤s.last;omega
  ·rw [e2];show s.atI+1≤s.atI+1;omega
 exact ⟨ho,ho.pre (by show (0:Int)≤0;decide) (by show (0:Int)<_;decide) (by show (0:Int)≤0;decide)⟩
def LgL.grow (g g':LgL):Prop:=g'.u.es.length≤g.u.es.length+60∧g'.s.L.length≤g.s.L.length+60
theorem LgL.grow.refl (g:LgL):g.grow g:=⟨by omega,by omega⟩
theorem TlL.append_pre {g:LgL} {u':TlL} {l:List Ent} (h:g.u.append l=some u') (hp:g.Pre) (hu:AllU l) (hl:l.length≤60) (hn:g.u.es.length+60≤20000):({g with u:=u'}:LgL).Pre∧g.grow {g with u:=u'}:=by
 unfold TlL.append at h;split at h
 ·cases h
 rename_i h1
 have hrow:rowB l=true:=by rcases hb:rowB l with _|_;exact absurd (.inr hb) h1;rfl
 have hr:=row_at hrow;have hok:=hu.ok hrow;have h0:=hr 0 (by omega);have hi0:idx0 l=(l.getD 0 default).index:=rfl;have hb0:=(hok 0 (by omega)).i0;split at h
 ·cases h
 have hl0:=hp.l0;have hl1:=hp.l1;split at h
 ·cases h;exact ⟨⟨hp.s,hok,by show l.length≤_;omega,hp.sm,hp.i0,hp.i1,hp.t0,(by show 0≤idx0 l;omega),(by show idx0 l≤_;omega),(by show 0≤idx0 l;omega),(by show idx0 l≤_;omega),hp.a0,hp.z1,hp.z2,hp.g0,hp.g2⟩,by show l.length≤_;omega,by show g.s.L.length≤_;omega⟩
 ·cases h;generalize (idx0 l - g.u.off).toNat=t at*;have hlen:(g.u.es.take t++l).length≤g.u.es.length+60:=by simp;omega
  exact ⟨⟨hp.s,AllOk.join hp.ok hok,by show (g.u.es.take t++l).length≤_;omega,hp.sm,hp.i0,hp.i1,hp.t0,hp.o0,hp.o1,(by show 0≤min g.u.till (idx0 l);omega),(by show min g.u.till (idx0 l)≤_;omega),hp.a0,hp.z1,hp.z2,hp.g0,hp.g2⟩,hlen,by show g.s.L.length≤_;omega⟩
theorem LgL.append_pre {g g':LgL} {l:List Ent} (h:g.append l=some g') (hp:g.Pre) (hu:AllU l) (hl:l.length≤60) (hn:g.u.es.length+60≤20000):g'.Pre∧g.grow g':=by
 by_cases h0:l.length=0
 ·unfold LgL.append at h;rw [if_pos h0] at h;cases h;exact ⟨hp,.refl _⟩
 ·obtain ⟨u',h1,rfl,_⟩:=LgL.append_some h h0;exact TlL.append_pre h1 hp hu hl hn
theorem LgL.commit_pre {g:LgL} (hp:g.Pre) (n:Int):(g.commit n).Pre∧g.grow (g.commit n):=
 ⟨⟨hp.s,hp.ok,hp.len,hp.sm,hp.i0,hp.i1,hp.t0,hp.o0,hp.o1,hp.l0,hp.l1,hp.a0,hp.z1,hp.z2,hp.g0,hp.g2⟩,.refl _⟩
theorem LgL.commit?_pre {g g':LgL} {n:Int} (h:g.commit? n=some g') (hp:g.Pre):g'.Pre∧g.grow g':=by
 unfold LgL.commit? at h;split at h
 ·cases h
 ·cases h;exact LgL.commit_pre hp n
theorem AllU.drop {l:List Ent} (h:AllU l) (k:Nat):AllU (l.drop k):=fun j hj=>by
 rw [getD_drop];exact h _ (by simp at hj;omega)
theorem LgL.maybe_pre {g g':LgL} {c:LCall} {A:LAns} (h:g.maybe c=some (A,g')) (hp:g.Pre) (hc:c.Ok) (hn:g.u.es.length+60≤20000):g'.Pre∧g.grow g':=by
 unfold LgL.maybe at h;split at h
 ·cases h
 split at h
 ·cases h;exact ⟨hp,.refl _⟩
 split at h
 ·split at h
  ·cases h
  ·rcases ha:g.append (c.es.drop (g.conflict c.es - c.pI - 1).toNat) with _|g1
   ·rw [ha] at h;cases h
   ·rw [ha] at h;simp only [Option.bind_some] at h;rcases hb:g1.commit? (min c.b (c.pI+c.es.length)) with _|g2
    ·rw [hb] at h;cases h
    ·rw [hb] at h;cases h;obtain ⟨h1,h2⟩:=LgL.append_pre ha hp (hc.es.drop _) (by simp;have:=hc.len;omega) hn;obtain ⟨h3,h4⟩:=LgL.commit?_pre hb h1;have e:g'=g1.commit (min c.b (c.pI+c.es.length)):=by
      unfold LgL.commit? at hb;split at hb
      ·cases hb
      ·cases hb;rfl
     subst e;exact ⟨h3,h2⟩
 ·rcases hb:g.commit? (min c.b (c.pI+c.es.length)) with _|g2
  ·rw [hb] at h;cases h
  ·rw [hb] at h;cases h;exact LgL.commit?_pre hb hp
theorem LgL.ask_same {g g':LgL} {c:LCall} {A:LAns} (h:g.ask c=some (A,g')):g'=g:=by
 have cut:∀{lo hi:Int},g.cut lo hi=some (A,g')→g'=g:=by
  intro lo hi h;unfold LgL.cut at h;split at h
  ·cases h
  split at h
  ·cases h;rfl
  ·rcases hr:g.rangeB lo hi with _|e
   ·rw [hr] at h;cases h
   ·rw [hr] at h;cases h;rfl
 unfold LgL.ask at h;by_cases hk:c.kind=3
 ·rw [if_pos hk] at h;split at h
  ·cases h;rfl
  ·cases h
 rw [if_neg hk] at h;clear hk;by_cases hk:c.kind=4
 ·rw [if_pos hk] at h;cases h;rfl
 rw [if_neg hk] at h;clear hk;by_cases hk:c.kind=5
 ·rw [if_pos hk] at h;cases h;rfl
 rw [if_neg hk] at h;clear hk;by_cases hk:c.kind=6
 ·rw [if_pos hk] at h;cases h;rfl
 rw [if_neg hk] at h;clear hk;by_cases hk:c.kind=7
 ·rw [if_pos hk] at h;cases h;rfl
 rw [if_neg hk] at h;clear hk;by_cases hk:c.kind=8
 ·rw [if_pos hk] at h;split at h
  ·exact cut h
  ·cases h;rfl
 rw [if_neg hk] at h;clear hk;by_cases hk:c.kind=9
 ·rw [if_pos hk] at h;exact cut h
 rw [if_neg hk] at h;clear hk;by_cases hk:c.kind=10
 ·rw [if_pos hk] at h;cases h;rfl
 rw [if_neg hk] at h;clear hk;by_cases hk:c.kind=11
 ·rw [if_pos hk] at h;cases h;rfl
 rw [if_neg hk] at h;clear hk;by_cases hk:c.kind=12
 ·rw [if_pos hk] at h;cases h;rfl
 rw [if_neg hk] at h;clear hk;by_cases hk:c.kind=15
 ·rw [if_pos hk] at h;unfold LgL.nextS at h;split at h
  ·cases h;rfl
  split at h
  ·cases h;rfl
  split at h
  ·cases h
  ·rcases hr:g.rangeB (g.apg+1) (g.most c.flag+1) with _|e
   ·rw [hr] at h;cases h
   ·rw [hr] at h;cases h;rfl
 rw [if_neg hk] at h;clear hk;by_cases hk:c.kind=16
 ·rw [if_pos hk] at h;cases h;rfl
 rw [if_neg hk] at h;clear hk;by_cases hk:c.kind=17
 ·rw [if_pos hk] at h;cases h;rfl
 rw [if_neg hk] at h;clear hk;by_cases hk:c.kind=20
 ·rw [if_pos hk] at h;cases h;rfl
 rw [if_neg hk] at h;clear hk;by_cases hk:c.kind=21
 ·rw [if_pos hk] at h;cases h;rfl
 rw [if_neg hk] at h;clear hk;by_cases hk:c.kind=22
 ·rw [if_pos hk] at h;cases h;rfl
 rw [if_neg hk] at h;clear hk;by_cases hk:c.kind=27
 ·rw [if_pos hk] at h;cases h;rfl
 rw [if_neg hk] at h;clear hk;by_cases hk:c.kind=28
 ·rw [if_pos hk] at h;cases h;rfl
 rw [if_neg hk] at h;clear hk;by_cases hk:c.kind=29
 ·rw [if_pos hk] at h;cases h;rfl
 rw [if_neg hk] at h;clear hk;by_cases hk:c.kind=30
 ·rw [if_pos hk] at h;cases h;rfl
 rw [if_neg hk] at h;clear hk;by_cases hk:c.kind=31
 ·rw [if_pos hk] at h;rcases hr:g.rangeB g.first (g.last+1) with _|e
  ·rw [hr] at h;cases h
  ·rw [hr] at h;cases h;rfl
 rw [if_neg hk] at h;clear hk;cases h
theorem LDo_pre {g g':LgL} {c:LCall} {A:LAns} (h:LDo g c=some (A,g')) (hp:g.Pre) (hc:c.Ok) (hn:g.u.es.length+60≤20000) (hn2:g.s.L.length+60≤20000):g'.Pre∧g.grow g':=by
 unfold LDo at h;by_cases hfar:farI≤c.a∨farI≤c.b∨farI≤c.atI
 ·rw [if_pos hfar] at h;cases h
 rw [if_neg hfar] at h;unfold farI at hfar;by_cases hk:c.kind=1
 ·rw [if_pos hk] at h;rcases ha:g.append c.es with _|g1
  ·rw [ha] at h;cases h
  ·rw [ha] at h;cases h;exact LgL.append_pre ha hp hc.es hc.len hn
 rw [if_neg hk] at h;clear hk;by_cases hk:c.kind=2
 ·rw [if_pos hk] at h;exact LgL.maybe_pre h hp hc hn
 rw [if_neg hk] at h;clear hk;by_cases hk:c.kind=13
 ·rw [if_pos hk] at h;rcases ha:g.commit? c.a with _|g1
  ·rw [ha] at h;cases h
  ·rw [ha] at h;cases h;exact LgL.commit?_pre ha hp
 rw [if_neg hk] at h;clear hk;by_cases hk:c.kind=14
 ·rw [if_pos hk] at h;split at h
  ·cases h;exact LgL.commit_pre hp _
  ·cases h;exact ⟨hp,.refl _⟩
 rw [if_neg hk] at h;clear hk;by_cases hk:c.kind=18
 ·rw [if_pos hk] at h;split at h
  ·cases h
  ·rename_i h1
   unfold farI at h1;cases h;have:=hc.b0;have:=hp.g0;have:=hp.g2;exact ⟨⟨hp.s,hp.ok,hp.len,hp.sm,hp.i0,hp.i1,hp.t0,hp.o0,hp.o1,hp.l0,hp.l1,hp.a0,hp.z1,hp.z2,(by show 0≤g.usg+c.b;omega),(by show g.usg+c.b<_;omega)⟩,.refl _⟩
 rw [if_neg hk] at h;clear hk;by_cases hk:c.kind=19
 ·rw [if_pos hk] at h;split at h
  ·cases h
  ·cases h;have:=hc.b0;have:=hp.g0;have:=hp.g2;exact ⟨⟨hp.s,hp.ok,hp.len,hp.sm,hp.i0,hp.i1,hp.t0,hp.o0,hp.o1,hp.l0,hp.l1,hc.a0,hp.z1,hp.z2,(by show 0≤g.usg - min g.usg c.b;omega),(by show g.usg - min g.usg c.b<_;omega)⟩,.refl _⟩
 rw [if_neg hk] at h;clear hk;by_cases hk:c.kind=23
 ·rw [if_pos hk] at h;cases h;have:=hp.o0;have:=hp.o1;have:=hp.len;exact ⟨⟨hp.s,hp.ok,hp.len,hp.sm,hp.i0,hp.i1,hp.t0,hp.o0,hp.o1,(by show 0≤g.u.off+(g.u.es.length:Int);omega),(by show g.u.off+(g.u.es.length:Int)≤_;omega),hp.a0,hp.z1,hp.z2,hp.g0,hp.g2⟩,.refl _⟩
 rw [if_neg hk] at h;clear hk;by_cases hk:c.kind=24
 ·rw [if_pos hk] at h;cases h;have:=hp.l0;have:=hp.l1;have hs:∀u',u'=g.u.stable c.atT c.atI→({g with u:=u'}:LgL).Pre∧g.grow {g with u:=u'}:=by
   intro u' hu';unfold TlL.stable at hu';split at hu'
   ·subst hu';refine ⟨⟨hp.s,AllOk.drop hp.ok _,?_,hp.sm,hp.i0,hp.i1,hp.t0,?_,?_,?_,?_,hp.a0,hp.z1,hp.z2,hp.g0,hp.g2⟩,?_,?_⟩
    ·show (g.u.es.drop (c.atI+1 - g.u.off).toNat).length≤_;simp;omega
    ·show 0≤c.atI+1;have:=hc.ai0;omega
    ·show c.atI+1≤_;omega
    ·show 0≤max g.u.till (c.atI+1);omega
    ·show max g.u.till (c.atI+1)≤_;omega
    ·show (g.u.es.drop (c.atI+1 - g.u.off).toNat).length≤_;simp;omega
    ·show g.s.L.length≤_;omega
   ·subst hu';exact ⟨hp,.refl _⟩
  exact hs _ rfl
 rw [if_neg hk] at h;clear hk;by_cases hk:c.kind=25
 ·rw [if_pos hk] at h;cases h;have hs:∀u',u'=g.u.Jy c.a→({g with u:=u'}:LgL).Pre∧g.grow {g with u:=u'}:=by
   intro u' hu';unfold TlL.Jy at hu';split at hu'
   ·subst hu';exact ⟨⟨hp.s,hp.ok,hp.len,Snap.zero_small,(by show (0:Int)≤0;decide),(by show (0:Int)<_;decide),(by show (0:Int)≤0;decide),hp.o0,hp.o1,hp.l0,hp.l1,hp.a0,hp.z1,hp.z2,hp.g0,hp.g2⟩,.refl _⟩
   ·subst hu';exact ⟨hp,.refl _⟩
  exact hs _ rfl
 rw [if_neg hk] at h;clear hk;by_cases hk:c.kind=26
 ·rw [if_pos hk] at h;split at h
  ·cases h
  ·rename_i h1
   unfold farI at h1;cases h;exact ⟨⟨hp.s,fun j hj=>absurd hj (Nat.not_lt_zero _),Nat.zero_le _,hc.sm,hc.i0,(by show c.snap.index<_;omega),hc.t0,(by show 0≤c.snap.index+1;omega),(by show c.snap.index+1≤_;omega),(by show 0≤c.snap.index+1;omega),(by show c.snap.index+1≤_;omega),hp.a0,hp.z1,hp.z2,hp.g0,hp.g2⟩,Nat.zero_le _,by show g.s.L.length≤_;omega⟩
 rw [if_neg hk] at h;clear hk;by_cases hk:c.kind=34
 ·rw [if_pos hk] at h;rcases hd:SDo g.s c.st with _|⟨A1,s1⟩
  ·rw [hd] at h;cases h
  ·rw [hd] at h;cases h;obtain ⟨h1,h2⟩:=SDo_ok hd hp.s hc.st hn2;exact ⟨⟨h1,hp.ok,hp.len,hp.sm,hp.i0,hp.i1,hp.t0,hp.o0,hp.o1,hp.l0,hp.l1,hp.a0,hp.z1,hp.z2,hp.g0,hp.g2⟩,by show g.u.es.length≤_;omega,h2⟩
 rw [if_neg hk] at h;have:=LgL.ask_same h;subst this;exact ⟨hp,.refl _⟩
end Go.Proofs.YtmagnkjodjmojaaGreat
