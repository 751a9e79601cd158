/- A part of the proof of FnLog: laws and walks, with their conditions written at each. -/
import Derived.Lib.MinMax
import Derived.Test.YtmagnkjodjmojaaGreatQ24
set_option maxRecDepth 20000
set_option maxHeartbeats 4000000
set_option linter.all false
namespace Go.Proofs.YtmagnkjodjmojaaGreat
open Go.RowKit
section
variable {N:Nat} {w w':World}
theorem Jh.news {sl:SlV} {es:List Ent} (h:Jh N w sl es):0<sl.n→∃ad,sl.A=some ad∧∀(j:Nat) u,(entRow es)[j]? =some u→w.cell? (ad.add j)=some u:=by
 intro hn;obtain ⟨b,o,hA,hi,hc⟩:=h.at_ hn;refine ⟨_,hA,fun j u hu=>?_⟩;have hl:=h.len;have hj:j<es.length*4:=by
  have:=(List.getElem?_eq_some_iff.1 hu).1
  rw [entRow_length] at this;exact this
 have h1:=entRow_at es (j / 4) (j % 4) (by omega) (by omega);have h2:=hc (j / 4) (j % 4) (by omega) (by omega);rw [show j / 4*4+j % 4=j by omega] at h1 h2;rw [List.getD_eq_getElem?_getD,hu] at h1;have h1:u=entCell (es.getD (j / 4) default) (j % 4):=h1;rw [h1,←h2];unfold Addr.add;split
 ·rename_i h0;subst h0;rfl
 ·rfl
theorem Jh.takeS {sl:SlV} {es:List Ent} (h:Jh N w sl es) {k:Nat} (hk:k≤sl.n):Jh N w ⟨sl.A,k,sl.c⟩ (es.take k):=by
 have hl:=h.len;refine ⟨by simp;omega,by have:=h.cap;simp only;omega,fun hn=>?_⟩;have hn:0<k:=hn;obtain ⟨b,o,hA,hi,hcell⟩:=h.at_ (by omega);refine ⟨b,o,hA,hi,fun j i hj hi'=>?_⟩;have hj:j<k:=hj;rw [getD_take_lt hj,←hcell j i (by omega) hi']
set_option maxRecDepth 100000 in
theorem run_sl_from {W:World} (A:Option Addr) (n c k:Nat) (kd:IntKind) (hk:k≤n):(Instr.sliceAt 34 (.slice A n c) (some (.int kd (k:Int))) none none).run Tryz.prog W=.ok (.slice (if c=k then A else A.map (fun x=>x.add (k*4))) (n - k) (c - k)) W:=by
 rw [run_sliceAt_slice W 34 _ _ _ _ Tryz.underlying34,run_slice_l W 34 A n c Tryz.underlying34 kd k (by omega) (by omega)];simp [go_sem]
set_option maxRecDepth 100000 in
theorem run_sl_to {W:World} (A:Option Addr) (n c k:Nat) (kd:IntKind) (hk:k≤c):(Instr.sliceAt 34 (.slice A n c) none (some (.int kd (k:Int))) none).run Tryz.prog W=.ok (.slice A k c) W:=by
 rw [run_sliceAt_slice W 34 _ _ _ _ Tryz.underlying34,run_slice_h W 34 A n c Tryz.underlying34 kd k (by omega) (by omega)];simp [go_sem]
set_option maxRecDepth 100000 in
theorem step_slice_from {ops:Array Oper} {o:Oper} {a:Act} {K:Act→World→Prop} {Q:Exit→Act→World→Prop} {E:Prop} {W:World} (hgd:o.guard=none) (x i:Operand)
  (ho:o.op=.slice 34 x (some i) none none) (sl:SlV) (k:Nat) (kd:IntKind) (hx:a.eval x=.slice sl.A sl.n sl.c) (hi:a.eval i=.int kd (k:Int)) (es:List Ent) {W':World} (hr:Jh N W' sl es) (hk:k≤sl.n)
  (h:∀t:SlV,t.n=sl.n - k→Jh N W' t (es.drop k)→K (a.put o.dst (.slice t.A t.n t.c)) W):
  if Region.wanted o (yielded ops a.tmps)=true then Oper.wp Tryz.prog o a W K Q else E:=by
 have hw:Region.wanted o (yielded ops a.tmps)=true:=by simp [Region.wanted,hgd]
 rw [if_pos hw];unfold Oper.wp execOp;simp only [ho,Option.map_some,Option.map_none,hx,hi,Sem.run_bind,Sem.run_pure,run_sl_from _ _ _ _ _ hk,Result.andThen_ok];exact h ⟨_,_,_⟩ rfl (hr.dropS hk)
set_option maxRecDepth 100000 in
theorem step_slice_to {ops:Array Oper} {o:Oper} {a:Act} {K:Act→World→Prop} {Q:Exit→Act→World→Prop} {E:Prop} {W:World} (hgd:o.guard=none) (x i:Operand)
  (ho:o.op=.slice 34 x none (some i) none) (sl:SlV) (k:Nat) (kd:IntKind) (hx:a.eval x=.slice sl.A sl.n sl.c) (hi:a.eval i=.int kd (k:Int)) (es:List Ent) {W':World} (hr:Jh N W' sl es) (hk:k≤sl.n)
  (h:∀t:SlV,t.n=k→Jh N W' t (es.take k)→K (a.put o.dst (.slice t.A t.n t.c)) W):
  if Region.wanted o (yielded ops a.tmps)=true then Oper.wp Tryz.prog o a W K Q else E:=by
 have hw:Region.wanted o (yielded ops a.tmps)=true:=by simp [Region.wanted,hgd]
 rw [if_pos hw];unfold Oper.wp execOp;simp only [ho,Option.map_some,Option.map_none,hx,hi,Sem.run_bind,Sem.run_pure,run_sl_to _ _ _ _ _ (Nat.le_trans hk hr.cap),Result.andThen_ok];exact h ⟨_,_,_⟩ rfl (hr.takeS hk)
theorem step_app_ents {ops:Array Oper} {o:Oper} {a:Act} {K:Act→World→Prop} {Q:Exit→Act→World→Prop} {E:Prop} {W:World} (hgd:o.guard=none) (s x:Operand)
  (ho:o.op=.call {callee:=.builtin .append,args:=#[s,x],argTypes:=#[34,34]}) (base:Nat)
  (v:Value) (n:Nat) (es1:List Ent) (hs:a.eval s=v) (hown:W.ownsRow base 104 4 v n (entRow es1))
  (sl:SlV) (es2:List Ent) (hx:a.eval x=.slice sl.A sl.n sl.c) (hr:Jh N W sl es2) (hb:n+sl.n≤400000) (hbase:base≤W.heap.size)
  (h:∀v' w',w'.ownsRow base 104 4 v' (n+sl.n) (entRow (es1++es2))→Upd (fun k=>v.ownBlock=some k) W w'→(v'.ownBlock=v.ownBlock∨v'.ownBlock=some W.heap.size)→K (a.put o.dst v') w'):
  if Region.wanted o (yielded ops a.tmps)=true then Oper.wp Tryz.prog o a W K Q else E:=by
 have hw:Region.wanted o (yielded ops a.tmps)=true:=by simp [Region.wanted,hgd]
 rw [if_pos hw];obtain ⟨i,hi,hz,hsize,hby⟩:=info_parts inf104;obtain ⟨v',w',hr,h2,h3,h4,h5,h6⟩:=run_app_src (P:=Tryz.prog) W base 34 o.type 104 i _ 4 40 Tryz.underlying34 hi hz hsize hby rfl (by omega) v n (entRow es1) hown sl.A sl.n sl.c (entRow es2) (by rw [entRow_length,hr.len]) hr.news (entRow_one es2) (by simp only [maxLen];omega) (by omega) hbase;unfold Oper.wp execOp;simp only [ho,resolve,invoke,builtin,Sem.run_bind,Sem.run_pure,Result.andThen_ok,List.map_toArray,List.map_cons,List.map_nil,hs,hx,hr];exact h _ _ (by rw [entRow_append];exact h2) ((Upd.refl _ W).grown h3 (fun k hk=>.inl hk)) h4
theorem own_empty {W:World} {H base:Nat} (h:Blk W H 104 #[]) (hb:base≤H):W.ownsRow base 104 4 (.slice (some ⟨H,0,none⟩) 0 0) 0 (entRow []):=
 ⟨rfl,.inr ⟨H,0,#[],rfl,hb,h,Nat.le_refl _,by simp [maxLen],rfl,rfl⟩⟩
end
section
variable {N:Nat} {w w':World} {S:Nat→Prop} {I:StK} {s:StL} {B:TlK} {u:TlL} {l:Nat} {g:LgL}
theorem spStable (h:SpTl N w B u) (hs:u.Sm) {t i:Int} (hi0:0≤i) (hi:i<4611686018427387904):
  Calls Tryz.prog 28 #[.pointer (some ⟨B.b,0,none⟩),.agg #[.int .u64 t,.int .u64 i]] w fun e w'=>e=.returned (.tuple #[])∧(∃B',B'.b=B.b∧SpTl N w' B' (u.stable t i))∧Upd (fun k=>k=B.b) w w':=by
 have HT:=qq fun (o:Obj)=>(spTlTerm (h.no ((Upd.refl No w).alloc o)) hs hi0 (show i<18446744073709551616 by omega)).toU
 have HA:=qq fun (W:World) (hu:Upd No (w.alloc (.cells #[.int .u64 t,.int .u64 i] 33)) W)=>(show W.cell? ⟨w.heap.size,0,none⟩=some (.int .u64 t)∧W.cell? ⟨w.heap.size,1,none⟩=some (.int .u64 i)∧W.cell? ⟨B.b,10,none⟩=some (.int .u64 u.off) from
  ⟨((Blk.new w _ _).upd hu (fun h=>h)).cell 0,((Blk.new w _ _).upd hu (fun h=>h)).cell 1,(h.no (((Upd.refl No w).alloc _).no hu)).c 10⟩)
 have HH:=qq fun (W:World) (hu:Upd No w W)=>(show (∃B',B'.b=B.b∧SpTl N W B' u)∧Upd (fun k=>k=B.b) w W from ⟨⟨B,rfl,h.no hu⟩,hu.ofNo⟩);have o0:=hs.o0;have o1:=hs.o1;by_cases h1:u.off≤i
 ·by_cases h2:i<u.end_
  ·by_cases h3:(ent u.es (i - u.off)).term=t
   ·have hlen:=hs.len;have hel:=h.E.len;have hen:u.end_=u.off+u.es.length:=rfl;obtain ⟨k,hk⟩:=Int.eq_ofNat_of_zero_le (show 0≤i+1 - u.off by omega);have hr:u.stable t i= {u with es:=u.es.drop k,off:=i+1,till:=max u.till (i+1)}:=by
     unfold TlL.stable;rw [if_pos ⟨h1,h2,h3⟩,hk,Int.toNat_natCast]
    rw [hr];have ht:u.term i=some t:=by unfold TlL.term;rw [if_pos ⟨h1,h2⟩,h3]
    rw [ht] at HT;simp only [Option.getD_some,Option.isSome_some] at HT;have hq:(t !=t)=false:=bne_eq_false_iff_eq.2 rfl;have hd:decide (i<u.off)=false:=decide_eq_false (by omega);have hkn:k≤B.E.n:=by omega
    have hn2:B.E.n≤100000:=by omega
    have hcap:=h.E.cap;have HSP:=qq fun (W:World) (hu:Upd No w W)=>h.no hu;have hlt:=h.blk.lt;have hi1:i+1<18446744073709551616:=by omega
    have j4:IntKind.u64.wrap (IntKind.u64.wrap (i+1) - u.off)=(k:Int):=by
     rw [show IntKind.u64.wrap (i+1)=i+1 by simp [IntKind.wrap_u64];omega,hk];simp [IntKind.wrap_u64];omega
    have hkc:k≤B.E.c:=by omega
    have HK:=qq hk;have t0:=hs.t0;have t1:=hs.t1;clear h hs hr ht h2 h3 hel hen hlen hk;go_enter Tryz.func28,Tryz.ntmps28;go_wp2_with fail
    refine (HT.out _).mono ?_;rintro r w1 ⟨rfl,U1⟩;have U1:=qq U1;have a0:=(HA.out w1 U1.out).1;have a1:=(HA.out w1 U1.out).2.1;have a2:=(HA.out w1 U1.out).2.2;go_wp2_with fail
    go_quiet (fail)
    go_wp2_with fail
    obtain ⟨w2,hw2⟩:∃W,W=w1.drewN nq:=⟨_,rfl⟩;have U2:=qq (show Upd No (w.alloc (.cells #[.int .u64 t,.int .u64 i] 33)) w2 by rw [hw2];exact U1.out.drewN _);rw [←hw2];clear hw2 a0 a1 a2 hq hd;have HSP2:=qq (HSP.out w2 (((Upd.refl No w).alloc _).no U2.out));have HSW2:=qq (show w.heap.size<w2.heap.size from Nat.lt_of_lt_of_le (by simp) U2.out.size)
    have HSS:=qq fun (W:World) (hu:Upd (fun j=>w2.heap.size≤j) w2 W)=>(show W.cell? ⟨w.heap.size,1,none⟩=some (.int .u64 i)∧W.cell? ⟨B.b,10,none⟩=some (.int .u64 u.off)∧W.frozen? ⟨B.b,9,none⟩=false from
     ⟨hu.cell (HA.out w2 U2.out).2.1 (by have:=HSW2.out;omega),(HSP2.out.blk.upd hu (by have:=HSP2.out.blk.lt;omega)).cell 10,(HSP2.out.blk.upd hu (by have:=HSP2.out.blk.lt;omega)).frozen 9⟩)
    have HS9:=qq fun (W:World) (hu:Upd (fun j=>w2.heap.size≤j) w2 W)=>(show W.cell? ⟨B.b,9,none⟩=some B.E.v from (HSP2.out.blk.upd hu (by have:=HSP2.out.blk.lt;omega)).cell 9);have HKd:=qq (HSS.out w2.drew (Upd.refl _ _).drew);have HKa:=qq fun (o:Obj)=>HSS.out ((w2.alloc o).drew) (((Upd.refl _ w2).alloc o).drew);have d9:w2.cell? ⟨B.b,9,none⟩=some B.E.v:=HS9.out w2 (Upd.refl _ _);have da9:∀o,(w2.alloc o).cell? ⟨B.b,9,none⟩=some B.E.v:=fun o=>HS9.out _ ((Upd.refl _ w2).alloc o);have HBK:=qq (show ∀o,Upd (fun j=>w2.heap.size≤j) w2 ((w2.alloc o).drew) from fun o=>(((Upd.refl _ w2).alloc o).drew));have HOW:=qq (own_empty (W:=(w2.alloc (.cells #[] 104)).drew) (base:=w2.heap.size) (Blk.new w2 104 #[]) (Nat.le_refl _));obtain ⟨X,hX⟩:∃X,(if B.E.c=k then B.E.A else Option.map (fun x=>x.add (k*4)) B.E.A)=X:=⟨_,rfl⟩;have HRD:=qq (show Jh N ((w2.alloc (.cells #[] 104)).drew) ⟨X,B.E.n - k,B.E.c - k⟩ (u.es.drop k) by rw [←hX];exact (HSP2.out.E.dropS hkn).fr ((((Upd.refl No w2).alloc _).drew).fr0));have HN400:=qq (show 0+(⟨X,B.E.n - k,B.E.c - k⟩:SlV).n≤400000 by simp only;omega);have HBB:=qq (show B.b<w2.heap.size from HSP2.out.blk.lt);have HZ2:=qq (show w2.heap.size≤((w2.alloc (.cells #[] 104)).drew).heap.size by show w2.heap.size≤(w2.alloc (.cells #[] 104)).heap.size;simp);have HBW:=qq (show B.b<w.heap.size from hlt);clear U1 hlt
    refine wp_region_held_drew (S:=(fun W=>W.cell? ⟨w.heap.size,1,none⟩=some (.int .u64 i)∧W.cell? ⟨B.b,10,none⟩=some (.int .u64 u.off)∧W.frozen? ⟨B.b,9,none⟩=false)) (by kernel_rfl) (HKd.out) (fun hHeld=>?_);refine tk 0 rfl ?_ ?_ ?_;rotate_left 1
    ·intro w hS;go_simp;all_goals with_reducible rfl
    try simp only [NR]
    refine tk 2 rfl ?_ ?_ ?_;rotate_left 1
    ·intro w hS;go_simp;all_goals with_reducible rfl
    try simp only [NR]
    refine tk 3 rfl ?_ ?_ ?_;rotate_left 1
    ·intro w hS;go_simp;all_goals with_reducible rfl
    try simp only [NR]
    refine tk 4 rfl ?_ ?_ ?_;rotate_left 1
    ·intro w hS;go_simp;all_goals with_reducible rfl
    try simp only [NR]
    refine tk 5 rfl ?_ ?_ ?_;rotate_left 1
    ·intro w hS;go_simp;all_goals with_reducible rfl
    try simp only [NR]
    refine tk 7 rfl ?_ ?_ ?_;rotate_left 1
    ·intro w hS;go_simp;all_goals with_reducible rfl
    try simp only [NR]
    refine tk 8 rfl ?_ ?_ ?_;rotate_left 1
    ·intro w hS;go_simp;all_goals with_reducible rfl
    try simp only [NR]
    refine tk 9 rfl ?_ ?_ ?_;rotate_left 1
    ·intro w hS;go_simp;all_goals with_reducible rfl
    try simp only [NR]
    refine tk 10 rfl ?_ ?_ ?_;rotate_left 1
    ·intro w hS;go_simp;all_goals with_reducible rfl
    try simp only [NR]
    refine tk 11 rfl ?_ ?_ ?_;rotate_left 1
    ·intro w hS;go_simp;all_goals with_reducible rfl
    try simp only [NR]
    refine tk 12 rfl ?_ ?_ ?_;rotate_left 1
    ·intro w hS;go_simp;all_goals with_reducible rfl
    try simp only [NR]
    refine tk 13 rfl ?_ ?_ ?_;rotate_left 1
    ·intro w hS;go_simp;all_goals with_reducible rfl
    try simp only [NR]
    refine tk 14 rfl ?_ ?_ ?_;rotate_left 1
    ·intro w hS;go_simp;all_goals with_reducible rfl
    try simp only [NR]
    refine tk 15 rfl ?_ ?_ ?_;rotate_left 1
    ·intro w hS;go_simp;all_goals with_reducible rfl
    try simp only [NR]
    refine wpAnyH_ready (rs:=[1,6]) (by kernel_rfl) (by simp) ?_;refine AllReadyH.cons (o:=_) rfl (fun K hK=>?_) ?_;focus
     rw [if_pos (by rfl)];go_simp;refine hK.out _ _ (HKa.out _) (fun hHeld=>?_);clear hK;try simp only [NR]
     refine wpAnyH_ready (rs:=[6]) (by kernel_rfl) (by simp) ?_;refine ac rfl fun K hK=>?_;rw [if_pos (by rfl)];go_simp;refine hK.out _ _ (hHeld) (fun hHeld=>?_);clear hK;try simp only [NR]
     refine tk 16 rfl ?_ ?_ ?_;rotate_left 1
     ·intro w hS;go_simp;all_goals with_reducible rfl
     try simp only [NR]
     refine wpAnyH_ready (rs:=[17]) (by kernel_rfl) (by simp) ?_;refine ac rfl fun K hK=>?_;refine step_app_ents rfl (.tmp 32) (.tmp 47) rfl w2.heap.size (.slice (some ⟨w2.heap.size,0,none⟩) 0 0) 0 [] rfl HOW.out ⟨X,B.E.n - k,B.E.c - k⟩ (u.es.drop k) rfl HRD.out HN400.out HZ2.out ?_;intro v9 w9 hown9 hu9 hv9;obtain ⟨s9,rfl,hn9,hr9,_⟩:=own_ents hown9 N;have HU9:=qq (show Upd (fun j=>w2.heap.size≤j) w2 w9 from (HBK.out _).trans hu9 (fun j hj=>.inl (by injection hj with hj;exact Nat.le_of_eq hj)));have HK10:=qq (HSS.out w9 HU9.out)
     have HK11:=qq fun (x:Value)=>(show (w9.setCell ⟨B.b,9,none⟩ x).cell? ⟨w.heap.size,1,none⟩=some (.int .u64 i)∧(w9.setCell ⟨B.b,9,none⟩ x).cell? ⟨B.b,10,none⟩=some (.int .u64 u.off)∧(w9.setCell ⟨B.b,9,none⟩ x).frozen? ⟨B.b,9,none⟩=false from
      have hb9:=HSP2.out.blk.upd HU9.out (by have:=HBB.out;omega);have hu:=(Upd.refl (fun j=>j=B.b) w9).setIn rfl 9 x
      ⟨hu.cell HK10.out.1 (by have:=HBW.out;omega),(hb9.set_ 9 x).cell 10,(hb9.set_ 9 x).frozen 9⟩)
     have z9:=HS9.out w9 HU9.out;have HR9:=qq hr9;clear hown9 hu9 hv9 hn9 hr9;refine hK.out _ _ HK10.out (fun hHeld=>?_);clear hK;try simp only [NR]
     refine tk 18 rfl ?_ ?_ ?_;rotate_left 1
     ·intro w hS;go_simp;all_goals with_reducible rfl
     try simp only [NR]
     refine tk 19 rfl ?_ ?_ ?_;rotate_left 1
     ·intro w hS;go_simp;all_goals with_reducible rfl
     try simp only [NR]
     refine tk 20 rfl ?_ ?_ ?_;rotate_left 1
     ·intro w hS;go_simp;all_goals with_reducible rfl
     try simp only [NR]
     refine wpAnyH_ready (rs:=[21]) (by kernel_rfl) (by simp) ?_;refine ac rfl fun K hK=>?_;rw [if_pos (by rfl)];go_simp;refine hK.out _ _ (HK11.out _) (fun hHeld=>?_);clear hK;try simp only [NR]
     refine wpAnyH_done (by kernel_rfl) ?_ _
    rotate_left 1;refine ac rfl fun K hK=>?_;rw [if_pos (by rfl)];go_simp;refine hK.out _ _ (hHeld) (fun hHeld=>?_);clear hK;try simp only [NR]
    refine tk 16 rfl ?_ ?_ ?_;rotate_left 1
    ·intro w hS;go_simp;all_goals with_reducible rfl
    try simp only [NR]
    refine wpAnyH_ready (rs:=[1]) (by kernel_rfl) (by simp) ?_;refine ac rfl fun K hK=>?_;rw [if_pos (by rfl)];go_simp;refine hK.out _ _ (HKa.out _) (fun hHeld=>?_);clear hK;try simp only [NR]
    refine wpAnyH_ready (rs:=[17]) (by kernel_rfl) (by simp) ?_;refine ac rfl fun K hK=>?_;refine step_app_ents rfl (.tmp 32) (.tmp 47) rfl w2.heap.size (.slice (some ⟨w2.heap.size,0,none⟩) 0 0) 0 [] rfl HOW.out ⟨X,B.E.n - k,B.E.c - k⟩ (u.es.drop k) rfl HRD.out HN400.out HZ2.out ?_;intro v9 w9 hown9 hu9 hv9;obtain ⟨s9,rfl,hn9,hr9,_⟩:=own_ents hown9 N;have HU9:=qq (show Upd (fun j=>w2.heap.size≤j) w2 w9 from (HBK.out _).trans hu9 (fun j hj=>.inl (by injection hj with hj;exact Nat.le_of_eq hj)));have HK10:=qq (HSS.out w9 HU9.out)
    have HK11:=qq fun (x:Value)=>(show (w9.setCell ⟨B.b,9,none⟩ x).cell? ⟨w.heap.size,1,none⟩=some (.int .u64 i)∧(w9.setCell ⟨B.b,9,none⟩ x).cell? ⟨B.b,10,none⟩=some (.int .u64 u.off)∧(w9.setCell ⟨B.b,9,none⟩ x).frozen? ⟨B.b,9,none⟩=false from
     have hb9:=HSP2.out.blk.upd HU9.out (by have:=HBB.out;omega);have hu:=(Upd.refl (fun j=>j=B.b) w9).setIn rfl 9 x
     ⟨hu.cell HK10.out.1 (by have:=HBW.out;omega),(hb9.set_ 9 x).cell 10,(hb9.set_ 9 x).frozen 9⟩)
    have z9:=HS9.out w9 HU9.out;have HR9:=qq hr9;clear hown9 hu9 hv9 hn9 hr9;refine hK.out _ _ HK10.out (fun hHeld=>?_);clear hK;try simp only [NR]
    refine tk 18 rfl ?_ ?_ ?_;rotate_left 1
    ·intro w hS;go_simp;all_goals with_reducible rfl
    try simp only [NR]
    refine tk 19 rfl ?_ ?_ ?_;rotate_left 1
    ·intro w hS;go_simp;all_goals with_reducible rfl
    try simp only [NR]
    refine tk 20 rfl ?_ ?_ ?_;rotate_left 1
    ·intro w hS;go_simp;all_goals with_reducible rfl
    try simp only [NR]
    refine wpAnyH_ready (rs:=[21]) (by kernel_rfl) (by simp) ?_;refine ac rfl fun K hK=>?_;rw [if_pos (by rfl)];go_simp;refine hK.out _ _ (HK11.out _) (fun hHeld=>?_);clear hK;try simp only [NR]
    refine wpAnyH_done (by kernel_rfl) ?_ _;all_goals
     have HB11:=qq (show Blk ((w9.setCell ⟨B.b,9,none⟩ s9.v).setCell ⟨B.b,10,none⟩ (.int .u64 (i+1))) B.b 85 (((tlCells B u).setIfInBounds 9 s9.v).setIfInBounds 10 (.int .u64 (i+1))) from
      (((HSP2.out.blk.upd HU9.out (by have:=HBB.out;omega)).set_ 9 _).set_ 10 _))
     have HU11:=qq (show Upd (fun k=>k=B.b) w ((w9.setCell ⟨B.b,9,none⟩ s9.v).setCell ⟨B.b,10,none⟩ (.int .u64 (i+1))) from
      ((((((Upd.refl (fun k=>k=B.b) w).alloc _).no U2.out).trans HU9.out (fun j hj=>.inr (Nat.le_trans (Nat.le_of_lt HSW2.out) hj))).setCell (.inl rfl) _).setCell (.inl rfl) _))
     have HRE:=qq (show Jh N ((w9.setCell ⟨B.b,9,none⟩ s9.v).setCell ⟨B.b,10,none⟩ (.int .u64 (i+1))) s9 (u.es.drop k) from by
      have hb9:=HSP2.out.blk.upd HU9.out (by have:=HBB.out;omega);have hm:Mutb N w9 B.b:=hb9.mutb HSP2.out.N rfl;have hu:Upd (fun k=>k=B.b) w9 ((w9.setCell ⟨B.b,9,none⟩ s9.v).setCell ⟨B.b,10,none⟩ (.int .u64 (i+1))):=((Upd.refl (fun k=>k=B.b) w9).setIn rfl 9 _).setIn rfl 10 _
      exact HR9.out.fr (hu.fr (by rintro k rfl;exact hm)))
     have a1:=(HK11.out s9.v).1;have y10:(w9.setCell ⟨B.b,9,none⟩ s9.v).frozen? ⟨B.b,10,none⟩=false:=((HSP2.out.blk.upd HU9.out (by have:=HBB.out;omega)).set_ 9 _).frozen 10;have x10:(w9.setCell ⟨B.b,9,none⟩ s9.v).cell? ⟨B.b,10,none⟩=some (.int .u64 u.off):=((HSP2.out.blk.upd HU9.out (by have:=HBB.out;omega)).set_ 9 _).cell 10;obtain ⟨w10,hw10⟩:∃W,W=w9.setCell ⟨B.b,9,none⟩ s9.v:=⟨_,rfl⟩;rw [←hw10] at HB11 HU11 HRE a1 y10 x10 ⊢;clear hw10 HK10 HK11 z9 HR9 HU9 HKd HKa d9 da9 HBK HOW HRD HN400 HZ2 hX HSS HS9 j4;go_wp2_with fail
     obtain ⟨w11,hw11⟩:∃W,W=w10.setCell ⟨B.b,10,none⟩ (.int .u64 (i+1)):=⟨_,rfl⟩;rw [←hw11] at HB11 HU11 HRE ⊢;clear hw11 a1 y10 x10;have x12:w11.cell? ⟨B.b,12,none⟩=some (.int .u64 u.till):=HB11.out.cell 12;have d10:w11.drew.cell? ⟨B.b,10,none⟩=some (.int .u64 (i+1)):=HB11.out.cell 10;have d12:w11.drew.frozen? ⟨B.b,12,none⟩=false:=HB11.out.frozen 12;have HB12:=qq fun (x:Int)=>(HB11.out.set_ 12 (.int .u64 x)).drew;have HU12:=qq fun (x:Int)=>((HU11.out.setCell (a:=⟨B.b,12,none⟩) (.inl rfl) (.int .u64 x)).drew)
     have HR12:=qq fun (x:Int)=>(show Jh N ((w11.setCell ⟨B.b,12,none⟩ (.int .u64 x)).drew) s9 (u.es.drop k) from by
      have hm:Mutb N w11 B.b:=HB11.out.mutb HSP2.out.N rfl
      exact HRE.out.fr ((((Upd.refl (fun k=>k=B.b) w11).setIn rfl 12 _).drew).fr (by rintro k rfl;exact hm)))
     have HCF:=qq fun (x:Int)=>(show B.v.Rd N ((w11.setCell ⟨B.b,12,none⟩ (.int .u64 x)).drew) u.snap from by
      have hm:Mutb N w B.b:=⟨HSP2.out.N,.inr ⟨85,((HSP.out w (Upd.refl _ _)).blk.ty),rfl⟩⟩
      exact (HSP.out w (Upd.refl _ _)).cf.fr ((HU12.out x).fr (by rintro k rfl;exact hm)))
     have e12:=qq fun (x:Int)=>(show (w11.setCell ⟨B.b,12,none⟩ (.int .u64 x)).drew.cell? ⟨B.b,10,none⟩=some (.int .u64 (i+1))∧(w11.setCell ⟨B.b,12,none⟩ (.int .u64 x)).drew.frozen? ⟨B.b,12,none⟩=false from ⟨(HB12.out x).cell 10,(HB12.out x).frozen 12⟩);refine wp_region_held_drew (S:=(fun W=>W.cell? ⟨B.b,10,none⟩=some (.int .u64 (i+1))∧W.frozen? ⟨B.b,12,none⟩=false)) (by kernel_rfl) (⟨d10,d12⟩) (fun hHeld=>?_);refine tk 0 rfl ?_ ?_ ?_;rotate_left 1
     ·intro w hS;go_simp;all_goals with_reducible rfl
     try simp only [NR]
     refine tk 1 rfl ?_ ?_ ?_;rotate_left 1
     ·intro w hS;go_simp;all_goals with_reducible rfl
     try simp only [NR]
     refine tk 2 rfl ?_ ?_ ?_;rotate_left 1
     ·intro w hS;go_simp;all_goals with_reducible rfl
     try simp only [NR]
     refine tk 3 rfl ?_ ?_ ?_;rotate_left 1
     ·intro w hS;go_simp;all_goals with_reducible rfl
     try simp only [NR]
     refine tk 4 rfl ?_ ?_ ?_;rotate_left 1
     ·intro w hS;go_simp;all_goals with_reducible rfl
     try simp only [NR]
     refine tk 6 rfl ?_ ?_ ?_;rotate_left 1
     ·intro w hS;go_simp;all_goals with_reducible rfl
     try simp only [NR]
     refine tk 7 rfl ?_ ?_ ?_;rotate_left 1
     ·intro w hS;go_simp;all_goals with_reducible rfl
     try simp only [NR]
     refine tk 8 rfl ?_ ?_ ?_;rotate_left 1
     ·intro w hS;go_simp;all_goals with_reducible rfl
     try simp only [NR]
     refine tk 9 rfl ?_ ?_ ?_;rotate_left 1
     ·intro w hS;go_simp;all_goals with_reducible rfl
     try simp only [NR]
     refine tk 10 rfl ?_ ?_ ?_;rotate_left 1
     ·intro w hS;go_simp;all_goals with_reducible rfl
     try simp only [NR]
     refine wpAnyH_ready (rs:=[5]) (by kernel_rfl) (by simp) ?_;refine ac rfl fun K hK=>?_;rw [if_pos (by rfl)];go_simp;refine hK.out _ _ (hHeld) (fun hHeld=>?_);clear hK;try simp only [NR]
     refine wpAnyH_ready (rs:=[11]) (by kernel_rfl) (by simp) ?_;refine ac rfl fun K hK=>?_;rw [if_pos (by rfl)];go_simp;refine hK.out _ _ (hHeld) (fun hHeld=>?_);clear hK;try simp only [NR]
     refine tk 12 rfl ?_ ?_ ?_;rotate_left 1
     ·intro w hS;go_simp;all_goals with_reducible rfl
     try simp only [NR]
     refine tk 13 rfl ?_ ?_ ?_;rotate_left 1
     ·intro w hS;go_simp;all_goals with_reducible rfl
     try simp only [NR]
     refine tk 14 rfl ?_ ?_ ?_;rotate_left 1
     ·intro w hS;go_simp;all_goals with_reducible rfl
     try simp only [NR]
     refine wpAnyH_ready (rs:=[15]) (by kernel_rfl) (by simp) ?_;refine ac rfl fun K hK=>?_;rw [if_pos (by rfl)];go_simp;refine hK.out _ _ (e12.out _) (fun hHeld=>?_);clear hK;try simp only [NR]
     refine wpAnyH_done (by kernel_rfl) ?_ _;go_wp2;go_end0;exact ⟨rfl,⟨⟨B.b,B.v,s9⟩,rfl,HB12.out _,HCF.out _,HR12.out _,HSP2.out.N⟩,HU12.out _⟩
   ·have hr:u.stable t i=u:=by unfold TlL.stable;rw [if_neg (fun h=>h3 h.2.2)]
    rw [hr];have ht:u.term i=some (ent u.es (i - u.off)).term:=by unfold TlL.term;rw [if_pos ⟨h1,h2⟩]
    rw [ht] at HT;simp only [Option.getD_some,Option.isSome_some] at HT;generalize (ent u.es (i - u.off)).term=t' at*;have hq:(t' !=t)=true:=bne_iff_ne.2 h3;have hd:decide (i<u.off)=false:=decide_eq_false (by omega);clear h hs hr ht h2 h3;go_enter Tryz.func28,Tryz.ntmps28;go_wp2_with fail
    refine (HT.out _).mono ?_;rintro r w1 ⟨rfl,U1⟩;have U1:=qq U1;have a0:=(HA.out w1 U1.out).1;have a1:=(HA.out w1 U1.out).2.1;have a2:=(HA.out w1 U1.out).2.2;go_wp2_with fail
    go_quiet (fail)
    go_wp2;refine bodyPost_ret (results_none rfl _ _ _) rfl ?_;exact ⟨rfl,HH.out _ ((((Upd.refl No w).alloc _).no U1.out).drewN _)⟩
  ·have hr:u.stable t i=u:=by unfold TlL.stable;rw [if_neg (fun h=>h2 h.2.1)]
   have ht:u.term i=none:=TlL.term_none (fun h=>h2 h.2) (fun h=>by omega);rw [hr];rw [ht] at HT;simp only [Option.getD_none,Option.isSome_none] at HT;clear h hs hr ht h2;go_enter Tryz.func28,Tryz.ntmps28;go_wp2_with fail
   refine (HT.out _).mono ?_;rintro r w1 ⟨rfl,U1⟩;have U1:=qq U1;have a0:=(HA.out w1 U1.out).1;have a1:=(HA.out w1 U1.out).2.1;have a2:=(HA.out w1 U1.out).2.2;go_wp2_with fail
   go_quiet (fail)
   go_wp2;refine bodyPost_ret (results_none rfl _ _ _) rfl ?_;exact ⟨rfl,HH.out _ ((((Upd.refl No w).alloc _).no U1.out).drewN _)⟩
 ·have hr:u.stable t i=u:=by unfold TlL.stable;rw [if_neg (fun h=>h1 h.1)]
  rw [hr];have hd:decide (i<u.off)=true:=decide_eq_true (by omega);generalize u.term i=x at*;rcases x with _|t'
  ·simp only [Option.getD_none,Option.isSome_none] at HT;clear h hs hr h1;go_enter Tryz.func28,Tryz.ntmps28;go_wp2_with fail
   refine (HT.out _).mono ?_;rintro r w1 ⟨rfl,U1⟩;have U1:=qq U1;have a0:=(HA.out w1 U1.out).1;have a1:=(HA.out w1 U1.out).2.1;have a2:=(HA.out w1 U1.out).2.2;go_wp2_with fail
   go_quiet (fail)
   go_wp2;refine bodyPost_ret (results_none rfl _ _ _) rfl ?_;exact ⟨rfl,HH.out _ ((((Upd.refl No w).alloc _).no U1.out).drewN _)⟩
  ·simp only [Option.getD_some,Option.isSome_some] at HT;clear h hs hr h1;go_enter Tryz.func28,Tryz.ntmps28;go_wp2_with fail
   refine (HT.out _).mono ?_;rintro r w1 ⟨rfl,U1⟩;have U1:=qq U1;have a0:=(HA.out w1 U1.out).1;have a1:=(HA.out w1 U1.out).2.1;have a2:=(HA.out w1 U1.out).2.2;go_wp2_with fail
   go_quiet (fail)
   go_wp2;refine bodyPost_ret (results_none rfl _ _ _) rfl ?_;exact ⟨rfl,HH.out _ ((((Upd.refl No w).alloc _).no U1.out).drewN _)⟩
end
end Go.Proofs.YtmagnkjodjmojaaGreat
