/- A part of the proof of FnLog: laws and walks, with their conditions written at each. -/
import Derived.Test.YtmagnkjodjmojaaGreatQ11
set_option maxRecDepth 20000
set_option maxHeartbeats 4000000
set_option linter.all false
namespace Go.Proofs.YtmagnkjodjmojaaGreat
open Go.RowKit
section
variable {N:Nat} {w w' w'':World} {J:LId} {g:LgL} {I I' I'':SId} {s s':StL}
theorem make1 (n:Nat) (h1:1≤n) (h2:n≤100000) (w:World):(Instr.makeSlice 128 (.int .i64 1) (.int .u64 (n:Int))).run Tryz.prog w=.ok (.slice (some ⟨w.heap.size,0,none⟩) 1 n) (w.alloc (.cells (madeCells #[.pointer none] n) 122)):=by
 obtain ⟨i,hi,hz,hsize,hby⟩:=info_parts inf122;have:=run_make (P:=Tryz.prog) w 128 122 i _ Tryz.underlying128 hi hz .i64 .u64 1 n (by omega) (by omega) (by rw [hby];omega) (by omega);simp only [hsize,Int.toNat_natCast,Nat.mul_one] at this;exact this
theorem newDum {W:World} {T A:Int} (m:Nat) (hm:1≤m) (hN:N≤W.heap.size):
  PArr N ((((W.alloc (Obj.cells ((madeCells #[Value.pointer none] m).setIfInBounds 0 (Value.pointer (some {block:=W.heap.size+1+1+1,off:=0}))) 122)).alloc (Obj.cells #[Value.int IntKind.u64 A] 23)).alloc (Obj.cells #[Value.int IntKind.u64 T] 23)).alloc (Obj.cells #[Value.pointer (some {block:=W.heap.size+1+1,off:=0}),Value.pointer (some {block:=W.heap.size+1,off:=0}),Value.pointer none,Value.slice none 0 0] 127)).drew
   1 ⟨some ⟨W.heap.size,0,none⟩,1,m⟩ [⟨T,A,0,⟨#[]⟩⟩]:=by
 refine ⟨rfl,hm,fun _=>⟨W.heap.size,0,_,rfl,((((Blk.new W 122 _).alloc _).alloc _).alloc _).drew,by simp [size_madeCells],hN,fun j hj=>?_⟩⟩;have:j=0:=by simp only at hj;omega
 subst this;refine ⟨W.heap.size+1+1+1,?_,some ⟨W.heap.size+1+1,0,none⟩,some ⟨W.heap.size+1,0,none⟩,none,⟨none,0,0⟩,?_,.inr ⟨_,rfl,?_⟩,.inr ⟨_,rfl,?_⟩,.inl ⟨rfl,rfl⟩,⟨Jg.nil none,fun _=>rfl⟩,fun h=>absurd h (by omega)⟩
 ·rw [Nat.zero_add,Array.getElem?_setIfInBounds_self_of_lt (by simp [size_madeCells];omega)]
 ·exact (Blk.new_ (by simp)).drew
 ·exact ((Blk.new_ (by simp)).alloc _).drew
 ·exact (((Blk.new_ (by simp)).alloc _).alloc _).drew
theorem stCompact_low (h:Je N w I s) (ho:s.Ok) {a:Int} (ha:a≤s.atI):
  Calls Tryz.prog 124 #[.pointer (some ⟨I.ms,0,none⟩),.int .u64 a] w fun e w'=>e=.returned (.iface 176 (.string errCompS))∧w=w':=by
 obtain ⟨b1,o1,p1,hA1,hc1,⟨_,ip1,_,_,q1,_,q3,_⟩,hne1⟩:=h.ents_at (j:=0) (by omega);simp only [List.getD_cons_zero,Nat.add_zero] at hc1 q3;change OptInt w 23 .u64 ip1 s.atI at q3;have c2:=h.c2;rw [hA1] at c2;have he0:(0:Int)<(I.es.n:Int):=by have:=h.n;omega
 clear h ho hA1;go_enter Tryz.func124,Tryz.ntmps124;go_wp2_with fail
 refine (ent_index q1 q3).mono ?_;rintro r w' ⟨rfl,rfl⟩;go_wp2;go_ret;exact ⟨rfl,rfl⟩
theorem stCompact (h:Je N w I s) (ho:s.Ok) {k:Nat} (hk1:1≤k) (hk:k≤s.L.length):
  Calls Tryz.prog 124 #[.pointer (some ⟨I.ms,0,none⟩),.int .u64 (s.atI+(k:Int))] w fun e w'=>e=.returned .nilIface∧
   ∃I',Je N w' I' {s with L:=s.L.drop k,atT:=(s.term (s.atI+(k:Int))).1,atI:=s.atI+(k:Int)}∧Jr w w' I I':=by
 obtain ⟨b1,o1,p1,hA1,hc1,⟨_,ip1,_,_,q1,_,q3,_⟩,hne1⟩:=h.ents_at (j:=0) (by omega);obtain ⟨b2,o2,p2,hA2,hc2,⟨tp2,ip2,_,_,r1,r2,r3,_⟩,hne2⟩:=h.ents_at hk;rw [hA1] at hA2;cases hA2;have hn:=h.n;have hnn:I.es.n≤20001:=by have:=ho.len;omega
 have i0:=ho.i0;have i1:=ho.atI_lt;have hlast:=ho.last;have hE:((dum s::s.L).getD k default).index=s.atI+(k:Int):=by
  obtain ⟨j,rfl⟩:∃j,k=j+1:=⟨k - 1,by omega⟩;rw [List.getD_cons_succ,ho.idx j (by omega)];omega
 have hT:(s.term (s.atI+(k:Int))).1=((dum s::s.L).getD k default).term:=by
  obtain ⟨j,rfl⟩:∃j,k=j+1:=⟨k - 1,by omega⟩;unfold StL.term;rw [if_neg (by omega),if_neg (by unfold StL.last;omega),if_neg (by omega),show s.atI+((j+1:Nat):Int) - s.first=(j:Int) by unfold StL.first;omega,ent_nat];rfl
 rw [hE] at r3;rw [hT];generalize hTT:((dum s::s.L).getD k default).term=T at*;simp only [List.getD_cons_zero,Nat.add_zero] at hc1 q3;change OptInt w 23 .u64 ip1 s.atI at q3;have c2:=h.c2;rw [hA1] at c2;have he0:(0:Int)<(I.es.n:Int):=by omega
 have HL:=qq (show Calls Tryz.prog 188 #[pp I.ms] w fun e w'=>e=.returned (.int .u64 (s.atI+(I.es.n:Int) - 1))∧∃n,w.drewN n=w' by
  have:=st_last h ho;rw [show s.atI+(I.es.n:Int) - 1=s.last by unfold StL.last;omega];exact this)
 have hm:=make1 (I.es.n - k) (by omega) (by omega);rw [show ((I.es.n - k:Nat):Int)=(I.es.n:Int) - (k:Int) by omega] at hm;have hg1:¬s.atI+(k:Int)≤s.atI:=by omega
 have hg2:¬s.atI+(I.es.n:Int) - 1<s.atI+(k:Int):=by omega
 have hd:s.atI+(k:Int) - s.atI=(k:Int):=by omega
 have hkk:(k:Int)<(I.es.n:Int):=by omega
 have hlt:s.atI+(k:Int)<4611686018427387904:=by unfold StL.last at hlast;omega
 have HH:=qq h;have HNL:=qq (Nat.lt_of_le_of_lt h.N h.mst.lt);have HLN:=qq hn;have hcap:=h.es.cap
 have HT:=qq fun (W:World) (hu:Upd No w W)=>(show PArr N W 0 ⟨some ⟨b1,o1+(k+1),none⟩,I.es.n - (k+1),I.es.c - (k+1)⟩ (s.L.drop k) from by
  have:=(SlV.as hA1 (h.no hu).es).drop_ (a:=k+1) (by omega)
  rw [show 1 - (k+1)=0 by omega] at this
  exact this)
 clear h ho hE hT hlast hn hTT;go_enter Tryz.func124,Tryz.ntmps124;go_wp2_with fail
 refine (ent_index q1 q3).mono ?_;rintro r w' ⟨rfl,rfl⟩;go_wp2_with fail
 refine HL.out.mono ?_;rintro r w1 ⟨rfl,n,hw1⟩;have hU1:=qq (show Upd No w w1 by rw [←hw1];exact (Upd.refl No w).drewN n);have c2':w1.cell? ⟨I.ms,2,none⟩=some (.slice (some ⟨b1,o1,none⟩) I.es.n I.es.c):=by rw [←hw1];exact c2
 have hc2':w1.cell? ⟨b1,o1+k,none⟩=some (pp p2):=by rw [←hw1];exact hc2
 clear hw1;go_wp2_with fail
 have HW:=qq fun (W:World) (hu:Upd No w1 W)=>hU1.out.no hu;have hb1:=World.block_lt_of_cell? w1 _ hc2';have hms:=World.block_lt_of_cell? w1 _ c2'
 have SA:=qq fun (W:World) (o:Obj) (h:Upd No w1 W∧W.cell? ⟨I.ms,2,none⟩=some (.slice (some ⟨b1,o1,none⟩) I.es.n I.es.c)∧W.cell? ⟨b1,o1+k,none⟩=some (pp p2)∧W.frozen? ⟨w1.heap.size,0,none⟩=false∧w1.heap.size<W.heap.size)=>(show Upd No w1 (W.alloc o)∧(W.alloc o).cell? ⟨I.ms,2,none⟩=some (.slice (some ⟨b1,o1,none⟩) I.es.n I.es.c)∧(W.alloc o).cell? ⟨b1,o1+k,none⟩=some (pp p2)∧(W.alloc o).frozen? ⟨w1.heap.size,0,none⟩=false∧w1.heap.size<(W.alloc o).heap.size from
  ⟨h.1.alloc o,cell_alloc h.2.1,cell_alloc h.2.2.1,(World.frozen?_of_block (a:=⟨w1.heap.size,0,none⟩) (heap_alloc_lt h.2.2.2.2)).trans h.2.2.2.1,Nat.lt_of_lt_of_le h.2.2.2.2 ((Upd.refl No W).alloc o).size⟩)
 have S0:=qq (show Upd No w1 (w1.alloc (Obj.cells (madeCells #[Value.pointer none] (I.es.n - k)) 122)).drew∧(w1.alloc (Obj.cells (madeCells #[Value.pointer none] (I.es.n - k)) 122)).drew.cell? ⟨I.ms,2,none⟩=some (.slice (some ⟨b1,o1,none⟩) I.es.n I.es.c)∧(w1.alloc (Obj.cells (madeCells #[Value.pointer none] (I.es.n - k)) 122)).drew.cell? ⟨b1,o1+k,none⟩=some (pp p2)∧(w1.alloc (Obj.cells (madeCells #[Value.pointer none] (I.es.n - k)) 122)).drew.frozen? ⟨w1.heap.size,0,none⟩=false∧w1.heap.size<(w1.alloc (Obj.cells (madeCells #[Value.pointer none] (I.es.n - k)) 122)).drew.heap.size from
  ⟨((Upd.refl No w1).alloc _).drew,cell_alloc c2',cell_alloc hc2',(Blk.new w1 122 (madeCells #[Value.pointer none] (I.es.n - k))).frozen 0,(Blk.new w1 122 (madeCells #[Value.pointer none] (I.es.n - k))).lt⟩)
 have hmc:(madeCells #[Value.pointer none] (I.es.n - k))[0]? =some (.pointer none):=by
  have hz:0<I.es.n - k:=by omega
  simp [madeCells,hz]
 have d3:=fun (o1 o2 o3:Obj)=>cell_alloc (o:=o3) (cell_alloc (o:=o2) (cell_alloc (o:=o1) (show (w1.alloc (Obj.cells (madeCells #[Value.pointer none] (I.es.n - k)) 122)).drew.cell? ⟨w1.heap.size,0,none⟩=some (.pointer none) from ((Blk.new w1 122 (madeCells #[Value.pointer none] (I.es.n - k))).cell 0).trans hmc)))
 have S4:=qq fun (cs:Array Value) (q1 q2 q3:Obj)=>(show Upd No w1 ((((w1.alloc (Obj.cells cs 122)).alloc q1).alloc q2).alloc q3).drew∧((((w1.alloc (Obj.cells cs 122)).alloc q1).alloc q2).alloc q3).drew.cell? ⟨I.ms,2,none⟩=some (.slice (some ⟨b1,o1,none⟩) I.es.n I.es.c)∧((((w1.alloc (Obj.cells cs 122)).alloc q1).alloc q2).alloc q3).drew.cell? ⟨b1,o1+k,none⟩=some (pp p2)∧((((w1.alloc (Obj.cells cs 122)).alloc q1).alloc q2).alloc q3).drew.frozen? ⟨w1.heap.size,0,none⟩=false∧w1.heap.size<((((w1.alloc (Obj.cells cs 122)).alloc q1).alloc q2).alloc q3).drew.heap.size from
  have h1:=(((((Upd.refl No w1).alloc (Obj.cells cs 122)).alloc q1).alloc q2).alloc q3).drew
  ⟨h1,h1.cell c2' (fun h=>h),h1.cell hc2' (fun h=>h),(((((Blk.new w1 122 cs).alloc q1).alloc q2).alloc q3).drew).frozen 0,((((Blk.new w1 122 cs).alloc q1).alloc q2).alloc q3).lt⟩)
 clear hb1 hms;go_region_held3 (fun W=>Upd No w1 W∧W.cell? ⟨I.ms,2,none⟩=some (.slice (some ⟨b1,o1,none⟩) I.es.n I.es.c)∧W.cell? ⟨b1,o1+k,none⟩=some (pp p2)∧W.frozen? ⟨w1.heap.size,0,none⟩=false∧w1.heap.size<W.heap.size)
  (first
   |(with_reducible exact S0.out)
   |(with_reducible assumption)
   |(exact SA.out _ _ ‹_›)
   |(exact S4.out _ _ _ _))
  (first
   |(go_at_call 150;have gU:=(‹Upd No w1 _∧_› :_∧_).1
     first
      |((with_reducible refine (ent_index (r1.upd (HW.out _ gU) (fun h=>h)) (r3.fr ((HW.out _ gU).fr0 (N:=N)) rfl)).mono ?_);rintro r w2 ⟨rfl,rfl⟩))
   |(go_at_call 149;have gU:=(‹Upd No w1 _∧_› :_∧_).1
     first
      |((with_reducible refine (ent_term (r1.upd (HW.out _ gU) (fun h=>h)) (r2.fr ((HW.out _ gU).fr0 (N:=N)) rfl)).mono ?_);rintro r w2 ⟨rfl,rfl⟩)))
 have HN0:=qq (Nat.le_trans (Nat.le_of_lt HNL.out) hU1.out.size);obtain ⟨W4,hW4⟩:∃W,W=((((w1.alloc (Obj.cells ((madeCells #[Value.pointer none] (I.es.n - k)).setIfInBounds 0 (Value.pointer (some {block:=w1.heap.size+1+1+1,off:=0}))) 122)).alloc (Obj.cells #[Value.int IntKind.u64 (s.atI+ ↑k)] 23)).alloc (Obj.cells #[Value.int IntKind.u64 T] 23)).alloc (Obj.cells #[Value.pointer (some {block:=w1.heap.size+1+1,off:=0}),Value.pointer (some {block:=w1.heap.size+1,off:=0}),Value.pointer none,Value.slice none 0 0] 127)).drew:=⟨_,rfl⟩;have HP0:=qq (show PArr N W4 1 ⟨some ⟨w1.heap.size,0,none⟩,1,I.es.n - k⟩ [⟨T,s.atI+(k:Int),0,⟨#[]⟩⟩] by rw [hW4];exact (newDum _ (by omega) HN0.out));have hU4:=qq (show Upd No w W4 by rw [hW4];exact HW.out _ (S4.out _ _ _ _).1);have HW4:=qq (show w1.heap.size<W4.heap.size by rw [hW4];exact (S4.out _ _ _ _).2.2.2.2);have c2'':W4.cell? ⟨I.ms,2,none⟩=some (.slice (some ⟨b1,o1,none⟩) I.es.n I.es.c):=by rw [hW4];exact (S4.out _ _ _ _).2.1
 rw [←hW4];clear hW4 S0 S4 SA HW d3 hmc c2' hc2';rcases Nat.lt_or_ge (k+1) I.es.c with hkc|hkc
 ·have hkc':(k:Int)+1<(I.es.c:Int):=by omega
  have hk2:(k:Int)+1≤(I.es.n:Int):=by omega
  have HPt:=qq (HT.out W4 hU4.out);have HBD:=qq (show ((⟨some ⟨w1.heap.size,0,none⟩,1,I.es.n - k⟩:SlV).n+(⟨some ⟨b1,o1+(k+1),none⟩,I.es.n - (k+1),I.es.c - (k+1)⟩:SlV).n≤1000000) by simp only;omega);have HNL4:=qq (Nat.le_trans HN0.out (Nat.le_of_lt HW4.out));go_wp2_with (with_reducible refine app_parr (s:=⟨some ⟨w1.heap.size,0,none⟩,1,I.es.n - k⟩) (t:=⟨some ⟨b1,o1+(k+1),none⟩,I.es.n - (k+1),I.es.c - (k+1)⟩) rfl (.tmp 58) (.tmp 65) rfl rfl rfl HP0.out HPt.out HBD.out HNL4.out ?_)
  intro s1 w5 hP2 hU2 hA2 hn2;clear hn2
  have hU5:Upd No w w5:=hU4.out.trans hU2 (fun j ⟨h1,_⟩=>.inr (by
   have:w1.heap.size=j:=by simpa using h1
   have:=hU1.out.size
   omega))
  have X:=HH.out.appEs (N:=N) hU5 (fun _ h=>h.elim) s1 {s with L:=s.L.drop k,atT:=T,atI:=s.atI+(k:Int)} rfl hP2 (fun b hb=>by
   obtain ⟨h1,h2⟩:=hb;obtain ⟨b',o',cs',hA',_⟩:=hP2.arr h2;have h1':=h1;rw [hA'] at h1';have e:b'=b:=by simpa using h1'
   subst e;have:=hU1.out.size;have:=hU4.out.size;rcases hA2 b' o' h2 hA' with h3|h3
   ·have e:w1.heap.size=b':=by first|exact h3.1.1|exact h3.1
    exact .inr (by omega)
   ·exact .inr (by omega))
  obtain ⟨z2,f2,HR,HU⟩:=X;have HR:=qq HR;have HU:=qq HU;go_wp2;go_ret;exact ⟨rfl,{I with es:=s1},HR.out,HU.out⟩
 ·have e1:I.es.n=k+1:=by omega
  have e2:I.es.c=k+1:=by omega
  have HE2:=qq e2
  have HPt:=qq (show PArr N W4 0 ⟨some ⟨b1,o1,none⟩,0,0⟩ (s.L.drop k) by
   have:s.L.drop k=[]:=List.eq_nil_of_length_eq_zero (by rw [List.length_drop];have:=HLN.out;omega)
   rw [this]
   exact ⟨rfl,Nat.le_refl _,fun h=>absurd h (Nat.lt_irrefl 0)⟩)
  have HBD:=qq (show ((⟨some ⟨w1.heap.size,0,none⟩,1,k+1 - k⟩:SlV).n+(⟨some ⟨b1,o1,none⟩,0,0⟩:SlV).n≤1000000) by simp only;omega);have HNL4:=qq (Nat.le_trans HN0.out (Nat.le_of_lt HW4.out));rw [e1] at HP0 c2'';rw [e2] at c2'';rw [e1,e2];clear e1 e2;go_wp2_with (with_reducible refine app_parr (s:=⟨some ⟨w1.heap.size,0,none⟩,1,k+1 - k⟩) (t:=⟨some ⟨b1,o1,none⟩,0,0⟩) rfl (.tmp 58) (.tmp 65) rfl rfl rfl HP0.out HPt.out HBD.out HNL4.out ?_)
  intro s1 w5 hP2 hU2 hA2 hn2;clear hn2
  have hU5:Upd No w w5:=hU4.out.trans hU2 (fun j ⟨h1,_⟩=>.inr (by
   have:w1.heap.size=j:=by simpa using h1
   have:=hU1.out.size
   omega))
  have X:=HH.out.appEs (N:=N) hU5 (fun _ h=>h.elim) s1 {s with L:=s.L.drop k,atT:=T,atI:=s.atI+(k:Int)} rfl hP2 (fun b hb=>by
   obtain ⟨h1,h2⟩:=hb;obtain ⟨b',o',cs',hA',_⟩:=hP2.arr h2;have h1':=h1;rw [hA'] at h1';have e:b'=b:=by simpa using h1'
   subst e;have:=hU1.out.size;have:=hU4.out.size;rcases hA2 b' o' h2 hA' with h3|h3
   ·have e:w1.heap.size=b':=by first|exact h3.1.1|exact h3.1
    exact .inr (by omega)
   ·exact .inr (by omega))
  obtain ⟨z2,f2,HR,HU⟩:=X;have HR:=qq HR;have HU:=qq HU;go_wp2;go_ret;exact ⟨rfl,{I with es:=s1},HR.out,HU.out⟩
end
section
variable {N:Nat} {w w' w'':World} {J:LId} {g:LgL} {I I' I'':SId} {s s':StL}
theorem errV2:errV 2=.iface 176 (.string errOldS):=rfl
theorem Je.putSn (h:Je N w I s) {q m:Nat} {p:Snap} (hs:Kf N w q m p):
  Je N (w.setCell ⟨I.ms,1,none⟩ (.pointer (some ⟨q,0,none⟩))) {I with sn:=q,md:=m} {s with snap:=p}∧Upd (fun k=>k=I.ms) w (w.setCell ⟨I.ms,1,none⟩ (.pointer (some ⟨q,0,none⟩))):=by
 have hu:Upd (fun k=>k=I.ms) w (w.setCell ⟨I.ms,1,none⟩ (pp q)):=(Upd.refl (fun k=>k=I.ms) w).setIn rfl 1 _;obtain ⟨hp,k1,k2,k3,k4,k5,k6,hb,hh⟩:=h.blk;have hf:Fr N w (w.setCell ⟨I.ms,1,none⟩ (pp q)):=hu.fr (by rintro k rfl;exact hb.mutb h.N rfl);obtain ⟨_,_,_,_,hb1,hm1,_⟩:=id hs;exact ⟨⟨⟨hp,k1,k2,k3,k4,k5,k6,hb.set_ 1 _,hh.fr hf⟩,hs.upd hu hf (fun hk=>hb1.ne_ hb (by decide) hk) (fun hk=>hm1.ne_ hb (by decide) hk),h.es.upd_ hu hf (by rintro b rfl ht;exact hb.ty.ne_ ht (by decide) rfl),h.N⟩,hu⟩
theorem Kf.zz {sn md:Nat} {p:Snap} (h:Kf N w sn md p):∃(v0:Value) (v1:Value) (ix tm:Nat),Blk w sn 189 #[v0,.pointer (some ⟨md,0,none⟩)]∧Blk w md 235 #[v1,.pointer (some ⟨ix,0,none⟩),.pointer (some ⟨tm,0,none⟩)]∧Blk w ix 23 #[.int .u64 p.index]∧Blk w tm 23 #[.int .u64 p.term]:=by
 obtain ⟨ds,cf,ix,tm,hb,hm,hd,hc,hi,ht,_⟩:=h;exact ⟨_,_,ix,tm,hb,hm,hi,ht⟩
theorem Kf.gm {sn md:Nat} {p:Snap} (h:Kf N w sn md p):Calls Tryz.prog 173 #[.pointer (some ⟨sn,0,none⟩)] w fun e w'=>e=.returned (.pointer (some ⟨md,0,none⟩))∧w=w':=by
 obtain ⟨_,_,_,_,hb,_⟩:=h.zz;exact snap_meta hb
theorem Kf.gi {sn md:Nat} {p:Snap} (h:Kf N w sn md p):Calls Tryz.prog 175 #[.pointer (some ⟨md,0,none⟩)] w fun e w'=>e=.returned (.int .u64 p.index)∧w=w':=by
 obtain ⟨_,_,_,_,_,hm,hi,_⟩:=h.zz;exact meta_index hm (.inr ⟨_,rfl,hi⟩)
theorem Kf.gt {sn md:Nat} {p:Snap} (h:Kf N w sn md p):Calls Tryz.prog 176 #[.pointer (some ⟨md,0,none⟩)] w fun e w'=>e=.returned (.int .u64 p.term)∧w=w':=by
 obtain ⟨_,_,_,_,_,hm,_,ht⟩:=h.zz;exact meta_term hm (.inr ⟨_,rfl,ht⟩)
theorem Kf.no {sn md:Nat} {p:Snap} (h:Kf N w sn md p) (hu:Upd No w w'):Kf N w' sn md p:=h.upd hu hu.fr0 (fun h=>h) (fun h=>h)
theorem stApply_low {q m:Nat} {p:Snap} (h:Je N w I s) (hp:Kf N w q m p) (h1:1≤p.index) (hle:p.index≤s.snap.index):
  Calls Tryz.prog 128 #[.pointer (some ⟨I.ms,0,none⟩),.pointer (some ⟨q,0,none⟩)] w fun e w'=>e=.returned (.iface 176 (.string errOldS))∧w=w':=by
 have c1:=h.c1;have E:=qq (ensSnap hp);have A1:=qq h.sn.gm;have A2:=qq h.sn.gi;have B1:=qq hp.gm;have B2:=qq hp.gi;have hz:(s.snap.index !=0)=true:=by rw [bne_iff_ne];omega
 have hd:decide (p.index≤s.snap.index)=true:=by rw [decide_eq_true_eq];exact hle
 clear h hp;generalize p.index=x at*;generalize s.snap.index=y at*;go_enter Tryz.func128,Tryz.ntmps128;go_wp2_with fail
 refine E.out.mono ?_;rintro r w1 ⟨rfl,rfl⟩;go_wp2_with fail
 refine A1.out.mono ?_;rintro r w1 ⟨rfl,rfl⟩;go_wp2_with fail
 refine A2.out.mono ?_;rintro r w1 ⟨rfl,rfl⟩;go_wp2_with fail
 refine B1.out.mono ?_;rintro r w1 ⟨rfl,rfl⟩;go_wp2_with fail
 refine B2.out.mono ?_;rintro r w1 ⟨rfl,rfl⟩;go_wp2;go_ret;exact ⟨rfl,rfl⟩
theorem stApply_1 {q m:Nat} {p:Snap} (h:Je N w I s) (hp:Kf N w q m p) (hsm:p.small) (h1:1≤p.index) (hle:s.snap.index=0):
  Calls Tryz.prog 128 #[.pointer (some ⟨I.ms,0,none⟩),.pointer (some ⟨q,0,none⟩)] w fun e w'=>e=.returned .nilIface∧∃I',Je N w' I' {s with snap:=p,atT:=p.term,atI:=p.index,L:=[]}∧Jr w w' I I':=by
 have c1:=h.c1;have E:=qq (ensSnap hp);have A1:=qq h.sn.gm;have A2:=qq h.sn.gi;have B1:=qq hp.gm;have B2:=qq hp.gi;have hz:(s.snap.index !=0)=false:=by rw [hle];rfl
 have HG:=qq fun (W:World) (hu:Upd (fun k=>k=I.ms) w W)=>(show Kf N W q m p from by
  obtain ⟨_,_,_,_,hb1,hm1,_⟩:=id hp
  exact hp.upd hu (hu.fr (by rintro k rfl;exact ⟨h.N,.inr ⟨134,h.mst,rfl⟩⟩)) (fun hk=>hb1.ty.ne_ h.mst (by decide) hk) (fun hk=>hm1.ty.ne_ h.mst (by decide) hk))
 have HC:=qq (snapClone N q m p w hp hsm);have HS:=qq fun (W:World) (hu:Upd No w W) {q1 m1:Nat} (hs:Kf N W q1 m1 p)=>(h.no hu).putSn hs
 have HCE:=qq fun (W:World) (hu:Upd No w W)=>(show W.cell? ⟨I.ms,1,none⟩=some (pp I.sn)∧W.frozen? ⟨I.ms,1,none⟩=false∧W.cell? ⟨I.ms,2,none⟩=some I.es.v∧W.frozen? ⟨I.ms,2,none⟩=false from by
  obtain ⟨_,_,_,_,_,_,_,hb,_⟩:=(h.no hu).blk
  exact ⟨hb.cell 1,hb.frozen 1,hb.cell 2,hb.frozen 2⟩)
 have hmsl:=h.mst.lt;have hNl:=Nat.le_trans h.N (Nat.le_of_lt hmsl);clear h hp;obtain ⟨T,hT⟩:∃T,T=p.term:=⟨_,rfl⟩;obtain ⟨A,hA⟩:∃A,A=p.index:=⟨_,rfl⟩;have HT:=qq hT;have HA:=qq hA;have HGI:=qq fun (W:World) (hu:Upd (fun k=>k=I.ms) w W)=>(HG.out W hu).gi;have HGT:=qq fun (W:World) (hu:Upd (fun k=>k=I.ms) w W)=>(HG.out W hu).gt;rw [←hT] at HGT ⊢;rw [←hA] at HGI B2 ⊢;clear hle;clear hT hA h1;go_enter Tryz.func128,Tryz.ntmps128;go_wp2_with fail
 refine E.out.mono ?_;rintro r w1 ⟨rfl,rfl⟩;go_wp2_with fail
 refine A1.out.mono ?_;rintro r w1 ⟨rfl,rfl⟩;go_wp2_with fail
 refine A2.out.mono ?_;rintro r w1 ⟨rfl,rfl⟩;go_wp2_with fail
 refine B1.out.mono ?_;rintro r w1 ⟨rfl,rfl⟩;go_wp2_with fail
 refine B2.out.mono ?_;rintro r w1 ⟨rfl,rfl⟩;go_wp2_with fail
 refine HC.out.mono ?_;rintro r w2 ⟨q1,m1,rfl,hS,hU,hq,hm⟩;obtain ⟨z1,y1,z2,y2⟩:=HCE.out _ hU;have HR:=(HS.out _ hU hS).1;have HU2:=hU.ofNo.Ke (HS.out _ hU hS).2;have HQM:=qq (And.intro hq hm);have HSZ:=hU.size;clear hU hS hq hm z2 y2;go_wp2_with fail
 obtain ⟨w3,hw3⟩:∃W,W=w2.setCell {block:=I.ms,off:=1} (.pointer (some {block:=q1,off:=0})):=⟨_,rfl⟩;rw [←hw3] at HR HU2 ⊢;clear hw3 z1 y1;have z2:=HR.c2;have y2:w3.frozen? ⟨I.ms,2,none⟩=false:=by
  obtain ⟨_,_,_,_,_,_,_,hb,_⟩:=HR.blk;exact hb.frozen 2
 have hms3:I.ms<w3.heap.size:=HR.mst.lt;have d2:=fun (o1 o2 o3 o4:Obj)=>cell_alloc (o:=o4) (cell_alloc (o:=o3) (cell_alloc (o:=o2) (cell_alloc (o:=o1) z2)));have e2:=fun (o1 o2 o3 o4:Obj)=>(World.frozen?_of_block (a:=⟨I.ms,2,none⟩) ((((((Upd.refl No w3).alloc o1).alloc o2).alloc o3).alloc o4).keep I.ms hms3 (fun h=>h))).trans y2;have hN3:=qq (Nat.le_of_lt (Nat.lt_of_le_of_lt HR.N HR.mst.lt));have HR:=qq HR;have HU2:=qq HU2;have HSZ:=qq HSZ;refine (HG.out _ HU2.out).gm.mono ?_;rintro r w1 ⟨rfl,rfl⟩;go_wp2_with fail
 refine (HGT.out _ HU2.out).mono ?_;rintro r w1 ⟨rfl,rfl⟩;go_wp2_with fail
 refine (HG.out _ (HU2.out.alloc _)).gm.mono ?_;rintro r w1 ⟨rfl,rfl⟩;go_wp2_with fail
 refine (HGI.out _ (HU2.out.alloc _)).mono ?_;rintro r w1 ⟨rfl,rfl⟩;go_wp2;go_ret;have hN3:=hN3.out;have hu5:Upd No w3 ((((w3.alloc (.cells #[.int .u64 T] 23)).alloc (.cells #[.int .u64 A] 23)).alloc (.cells #[pp w3.heap.size,pp (w3.heap.size+1),.pointer none,.slice none 0 0] 127)).alloc (.cells #[pp (w3.heap.size+1+1)] 122)):=((((Upd.refl No w3).alloc _).alloc _).alloc _).alloc _;have hP:PArr N ((((w3.alloc (.cells #[.int .u64 T] 23)).alloc (.cells #[.int .u64 A] 23)).alloc (.cells #[pp w3.heap.size,pp (w3.heap.size+1),.pointer none,.slice none 0 0] 127)).alloc (.cells #[pp (w3.heap.size+1+1)] 122)) 1 ⟨some ⟨w3.heap.size+1+1+1,0,none⟩,1,1⟩ [⟨T,A,0,⟨#[]⟩⟩]:=by
  refine ⟨rfl,Nat.le_refl _,fun _=>⟨w3.heap.size+1+1+1,0,_,rfl,Blk.new_ (by simp),by simp,by omega,fun j hj=>?_⟩⟩;have:j=0:=by simp only at hj;omega
  subst this;refine ⟨w3.heap.size+1+1,rfl,some ⟨w3.heap.size,0,none⟩,some ⟨w3.heap.size+1,0,none⟩,none,⟨none,0,0⟩,?_,.inr ⟨_,rfl,?_⟩,.inr ⟨_,rfl,?_⟩,.inl ⟨rfl,rfl⟩,⟨Jg.nil none,fun _=>rfl⟩,fun h=>absurd h (by omega)⟩
  ·exact (Blk.new_ (by simp)).alloc _
  ·exact (((Blk.new_ (by simp)).alloc _).alloc _).alloc _
  ·exact ((Blk.new_ (by simp)).alloc _).alloc _
 have X:=(HR.out.appEs (N:=N) hu5 (fun _ h=>h.elim) ⟨some ⟨w3.heap.size+1+1+1,0,none⟩,1,1⟩ {s with snap:=p,atT:=T,atI:=A,L:=[]} rfl hP (fun b hb=>by
  obtain ⟨h1,_⟩:=hb;have:w3.heap.size+1+1+1=b:=by simpa using h1
  exact .inr (by omega)))
 have h2:=HU2.out;have h3:=h2.size;have h4:=HQM.out;refine ⟨rfl,_,X.2.2.1,⟨rfl,?_,.inr h4.1,.inr h4.2,fun b hb=>?_⟩⟩
 ·exact (h2.mono (S':=stS I) fun k hk=>.inl hk).trans X.2.2.2.upd (fun k hk=>by
   rcases hk with rfl|rfl|rfl|hb
   ·exact .inl (.inl rfl)
   ·exact .inr h4.1
   ·exact .inr h4.2
   ·exact .inl (.inr (.inr (.inr hb))))
 ·rcases X.2.2.2.es b hb with h5|h5
  ·exact .inl h5
  ·exact .inr (by omega)
theorem stApply_2 {q m:Nat} {p:Snap} (h:Je N w I s) (hp:Kf N w q m p) (hsm:p.small) (h1:1≤p.index) (hle:1≤s.snap.index) (hle2:s.snap.index<p.index):
  Calls Tryz.prog 128 #[.pointer (some ⟨I.ms,0,none⟩),.pointer (some ⟨q,0,none⟩)] w fun e w'=>e=.returned .nilIface∧∃I',Je N w' I' {s with snap:=p,atT:=p.term,atI:=p.index,L:=[]}∧Jr w w' I I':=by
 have c1:=h.c1;have E:=qq (ensSnap hp);have A1:=qq h.sn.gm;have A2:=qq h.sn.gi;have B1:=qq hp.gm;have B2:=qq hp.gi;have hz:(s.snap.index !=0)=true:=by rw [bne_iff_ne];omega
 have hd:decide (p.index≤s.snap.index)=false:=by rw [decide_eq_false_iff_not];omega
 have HG:=qq fun (W:World) (hu:Upd (fun k=>k=I.ms) w W)=>(show Kf N W q m p from by
  obtain ⟨_,_,_,_,hb1,hm1,_⟩:=id hp
  exact hp.upd hu (hu.fr (by rintro k rfl;exact ⟨h.N,.inr ⟨134,h.mst,rfl⟩⟩)) (fun hk=>hb1.ty.ne_ h.mst (by decide) hk) (fun hk=>hm1.ty.ne_ h.mst (by decide) hk))
 have HC:=qq (snapClone N q m p w hp hsm);have HS:=qq fun (W:World) (hu:Upd No w W) {q1 m1:Nat} (hs:Kf N W q1 m1 p)=>(h.no hu).putSn hs
 have HCE:=qq fun (W:World) (hu:Upd No w W)=>(show W.cell? ⟨I.ms,1,none⟩=some (pp I.sn)∧W.frozen? ⟨I.ms,1,none⟩=false∧W.cell? ⟨I.ms,2,none⟩=some I.es.v∧W.frozen? ⟨I.ms,2,none⟩=false from by
  obtain ⟨_,_,_,_,_,_,_,hb,_⟩:=(h.no hu).blk
  exact ⟨hb.cell 1,hb.frozen 1,hb.cell 2,hb.frozen 2⟩)
 have hmsl:=h.mst.lt;have hNl:=Nat.le_trans h.N (Nat.le_of_lt hmsl);clear h hp;obtain ⟨T,hT⟩:∃T,T=p.term:=⟨_,rfl⟩;obtain ⟨A,hA⟩:∃A,A=p.index:=⟨_,rfl⟩;have HT:=qq hT;have HA:=qq hA;have HGI:=qq fun (W:World) (hu:Upd (fun k=>k=I.ms) w W)=>(HG.out W hu).gi;have HGT:=qq fun (W:World) (hu:Upd (fun k=>k=I.ms) w W)=>(HG.out W hu).gt;rw [←hT] at HGT ⊢;rw [←hA] at HGI B2 hd ⊢;clear hle hle2;clear hT hA h1;go_enter Tryz.func128,Tryz.ntmps128;go_wp2_with fail
 refine E.out.mono ?_;rintro r w1 ⟨rfl,rfl⟩;go_wp2_with fail
 refine A1.out.mono ?_;rintro r w1 ⟨rfl,rfl⟩;go_wp2_with fail
 refine A2.out.mono ?_;rintro r w1 ⟨rfl,rfl⟩;go_wp2_with fail
 refine B1.out.mono ?_;rintro r w1 ⟨rfl,rfl⟩;go_wp2_with fail
 refine B2.out.mono ?_;rintro r w1 ⟨rfl,rfl⟩;go_wp2_with fail
 refine HC.out.mono ?_;rintro r w2 ⟨q1,m1,rfl,hS,hU,hq,hm⟩;obtain ⟨z1,y1,z2,y2⟩:=HCE.out _ hU;have HR:=(HS.out _ hU hS).1;have HU2:=hU.ofNo.Ke (HS.out _ hU hS).2;have HQM:=qq (And.intro hq hm);have HSZ:=hU.size;clear hU hS hq hm z2 y2;go_wp2_with fail
 obtain ⟨w3,hw3⟩:∃W,W=w2.setCell {block:=I.ms,off:=1} (.pointer (some {block:=q1,off:=0})):=⟨_,rfl⟩;rw [←hw3] at HR HU2 ⊢;clear hw3 z1 y1;have z2:=HR.c2;have y2:w3.frozen? ⟨I.ms,2,none⟩=false:=by
  obtain ⟨_,_,_,_,_,_,_,hb,_⟩:=HR.blk;exact hb.frozen 2
 have hms3:I.ms<w3.heap.size:=HR.mst.lt;have d2:=fun (o1 o2 o3 o4:Obj)=>cell_alloc (o:=o4) (cell_alloc (o:=o3) (cell_alloc (o:=o2) (cell_alloc (o:=o1) z2)));have e2:=fun (o1 o2 o3 o4:Obj)=>(World.frozen?_of_block (a:=⟨I.ms,2,none⟩) ((((((Upd.refl No w3).alloc o1).alloc o2).alloc o3).alloc o4).keep I.ms hms3 (fun h=>h))).trans y2;have hN3:=qq (Nat.le_of_lt (Nat.lt_of_le_of_lt HR.N HR.mst.lt));have HR:=qq HR;have HU2:=qq HU2;have HSZ:=qq HSZ;refine (HG.out _ HU2.out).gm.mono ?_;rintro r w1 ⟨rfl,rfl⟩;go_wp2_with fail
 refine (HGT.out _ HU2.out).mono ?_;rintro r w1 ⟨rfl,rfl⟩;go_wp2_with fail
 refine (HG.out _ (HU2.out.alloc _)).gm.mono ?_;rintro r w1 ⟨rfl,rfl⟩;go_wp2_with fail
 refine (HGI.out _ (HU2.out.alloc _)).mono ?_;rintro r w1 ⟨rfl,rfl⟩;go_wp2;go_ret;have hN3:=hN3.out;have hu5:Upd No w3 ((((w3.alloc (.cells #[.int .u64 T] 23)).alloc (.cells #[.int .u64 A] 23)).alloc (.cells #[pp w3.heap.size,pp (w3.heap.size+1),.pointer none,.slice none 0 0] 127)).alloc (.cells #[pp (w3.heap.size+1+1)] 122)):=((((Upd.refl No w3).alloc _).alloc _).alloc _).alloc _;have hP:PArr N ((((w3.alloc (.cells #[.int .u64 T] 23)).alloc (.cells #[.int .u64 A] 23)).alloc (.cells #[pp w3.heap.size,pp (w3.heap.size+1),.pointer none,.slice none 0 0] 127)).alloc (.cells #[pp (w3.heap.size+1+1)] 122)) 1 ⟨some ⟨w3.heap.size+1+1+1,0,none⟩,1,1⟩ [⟨T,A,0,⟨#[]⟩⟩]:=by
  refine ⟨rfl,Nat.le_refl _,fun _=>⟨w3.heap.size+1+1+1,0,_,rfl,Blk.new_ (by simp),by simp,by omega,fun j hj=>?_⟩⟩;have:j=0:=by simp only at hj;omega
  subst this;refine ⟨w3.heap.size+1+1,rfl,some ⟨w3.heap.size,0,none⟩,some ⟨w3.heap.size+1,0,none⟩,none,⟨none,0,0⟩,?_,.inr ⟨_,rfl,?_⟩,.inr ⟨_,rfl,?_⟩,.inl ⟨rfl,rfl⟩,⟨Jg.nil none,fun _=>rfl⟩,fun h=>absurd h (by omega)⟩
  ·exact (Blk.new_ (by simp)).alloc _
  ·exact (((Blk.new_ (by simp)).alloc _).alloc _).alloc _
  ·exact ((Blk.new_ (by simp)).alloc _).alloc _
 have X:=(HR.out.appEs (N:=N) hu5 (fun _ h=>h.elim) ⟨some ⟨w3.heap.size+1+1+1,0,none⟩,1,1⟩ {s with snap:=p,atT:=T,atI:=A,L:=[]} rfl hP (fun b hb=>by
  obtain ⟨h1,_⟩:=hb;have:w3.heap.size+1+1+1=b:=by simpa using h1
  exact .inr (by omega)))
 have h2:=HU2.out;have h3:=h2.size;have h4:=HQM.out;refine ⟨rfl,_,X.2.2.1,⟨rfl,?_,.inr h4.1,.inr h4.2,fun b hb=>?_⟩⟩
 ·exact (h2.mono (S':=stS I) fun k hk=>.inl hk).trans X.2.2.2.upd (fun k hk=>by
   rcases hk with rfl|rfl|rfl|hb
   ·exact .inl (.inl rfl)
   ·exact .inr h4.1
   ·exact .inr h4.2
   ·exact .inl (.inr (.inr (.inr hb))))
 ·rcases X.2.2.2.es b hb with h5|h5
  ·exact .inl h5
  ·exact .inr (by omega)
theorem stApply {q m:Nat} {p:Snap} (h:Je N w I s) (ho:s.Ok) (hp:Kf N w q m p) (hsm:p.small) {A:SAns} (h1:0≤p.index) (ha:s.apply p=some (A,s')):
  Calls Tryz.prog 128 #[.pointer (some ⟨I.ms,0,none⟩),.pointer (some ⟨q,0,none⟩)] w fun e w'=>e=.returned (errV A.err)∧∃I',Je N w' I' s'∧Jr w w' I I':=by
 unfold StL.apply at ha;have h0:=ho.si;split at ha
 ·cases ha
 split at ha
 ·cases ha;refine (stApply_low h hp (by omega) (by omega)).mono ?_;rintro e w1 ⟨h2,rfl⟩;exact ⟨h2,I,h,Jr.refl _ _⟩
 ·cases ha;by_cases hz:s.snap.index=0
  ·exact stApply_1 h hp hsm (by omega) hz
  ·exact stApply_2 h hp hsm (by omega) (by omega) (by omega)
end
end Go.Proofs.YtmagnkjodjmojaaGreat
