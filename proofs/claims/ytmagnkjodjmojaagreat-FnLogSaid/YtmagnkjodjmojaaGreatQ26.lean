/- A part of the proof of FnLog: laws and walks, with their conditions written at each. -/
import Derived.Test.YtmagnkjodjmojaaGreatQ24
import Derived.Test.YtmagnkjodjmojaaGreatQ25
set_option maxRecDepth 20000
set_option maxHeartbeats 4000000
set_option linter.all false
namespace Go.Proofs.YtmagnkjodjmojaaGreat
open Go.RowKit
section
variable {N:Nat} {w w':World}
theorem app_ents {ops:Array Oper} {rest:List Oper} {o:Oper} {a:Act} {Q:Exit→Act→World→Prop} {W:World} (hgd:o.guard=none) (s x:Operand)
  (ho:o.op=.call {callee:=.builtin .append,args:=#[s,x],argTypes:=#[34,34]}) (base:Nat)
  (v:Value) (n:Nat) (es1:List Ent) (hs:a.eval s=v) (hown:W.ownsRow base 104 4 v n (entRow es1))
  (sl:SlV) (es2:List Ent) (hx:a.eval x=.slice sl.A sl.n sl.c) (hr:Jh N W sl es2) (hb:n+sl.n≤400000) (hbase:base≤W.heap.size)
  (h:∀v' w',w'.ownsRow base 104 4 v' (n+sl.n) (entRow (es1++es2))→Upd (fun k=>v.ownBlock=some k) W w'→(v'.ownBlock=v.ownBlock∨v'.ownBlock=some W.heap.size)→wpList Tryz.prog ops Q rest (a.put o.dst v') w'):
  wpList Tryz.prog ops Q (o::rest) a W:=by
 refine wpList_plain hgd fun K hK=>?_;obtain ⟨i,hi,hz,hsize,hby⟩:=info_parts inf104;obtain ⟨v',w',hr,h2,h3,h4,h5,h6⟩:=run_app_src (P:=Tryz.prog) W base 34 o.type 104 i _ 4 40 Tryz.underlying34 hi hz hsize hby rfl (by omega) v n (entRow es1) hown sl.A sl.n sl.c (entRow es2) (by rw [entRow_length,hr.len]) hr.news (entRow_one es2) (by simp only [maxLen];omega) (by omega) hbase;unfold Oper.wp execOp;simp only [ho,resolve,invoke,builtin,Sem.run_bind,Sem.run_pure,Result.andThen_ok,List.map_toArray,List.map_cons,List.map_nil,hs,hx,hr];exact hK _ _ (h _ _ (by rw [entRow_append];exact h2) ((Upd.refl _ W).grown h3 (fun k hk=>.inl hk)) h4)
theorem Upd.frUp {w w':World} (h:Upd (fun j=>w.heap.size≤j) w w') (hN:N≤w.heap.size):Fr N w w':=h.fr fun _ hk=>⟨Nat.le_trans hN hk,.inl hk⟩
theorem TlL.append_eq0 {u:TlL} {l:List Ent} (h:l.length=0∨rowB l=false):u.append l=none:=by unfold TlL.append;rw [if_pos h]
end
section
variable {N:Nat} {w w':World} {S:Nat→Prop} {I:StK} {s:StL} {B:TlK} {u:TlL} {l:Nat} {g:LgL}
theorem spTlAppend (h:SpTl N w B u) (hs:u.Sm) {sl:SlV} {es:List Ent} (he:Jh N w sl es) (hu:AllU es) (hlen:es.length≤1000):
  Calls Tryz.prog 55 #[.pointer (some ⟨B.b,0,none⟩),.slice sl.A sl.n sl.c] w fun e w'=>e=.returned (.bool (u.append es).isSome)∧(∃B',B'.b=B.b∧SpTl N w' B' ((u.append es).getD u))∧Upd (fun k=>k=B.b) w w':=by
 have HRW:=qq (spRow he hu (by have:=he.len;omega)).toU;have HH:=qq fun (W:World) (hu:Upd No w W)=>(show (∃B',B'.b=B.b∧SpTl N W B' u)∧Upd (fun k=>k=B.b) w W from ⟨⟨B,rfl,h.no hu⟩,hu.ofNo⟩);have HSP:=qq fun (W:World) (hu:Upd No w W)=>h.no hu;have HES:=qq fun (W:World) (hu:Upd No w W)=>(show Jh N W sl es from he.fr hu.fr0);have hel:=he.len;have hNw:N≤w.heap.size:=Nat.le_trans h.N (Nat.le_of_lt h.blk.lt);have o0:=hs.o0;have o1:=hs.o1;have ul:=hs.len;have uel:=h.E.len;have ucap:=h.E.cap;have hend:u.end_=u.off+u.es.length:=rfl;have t0:=hs.t0;have t1:=hs.t1;by_cases h0:es.length=0
 ·rw [TlL.append_eq0 (.inl h0)];obtain ⟨n0,hn0⟩:∃n,n=sl.n:=⟨_,rfl⟩;have hn0':n0=0:=by omega
  rw [←hn0,hn0'];clear h he hu h0 hel hn0 hn0' uel hend;go_enter Tryz.func55,Tryz.ntmps55;go_wp2;go_ret;exact ⟨rfl,HH.out w (Upd.refl _ _)⟩
 ·have hnz:(sl.n==0)=false:=beq_eq_false_iff_ne.2 (by omega);have hnz2:((sl.n:Int)==0)=false:=beq_eq_false_iff_ne.2 (by omega);have hnz3:¬sl.n=0:=by omega
  rcases hrow:rowB es with _|_
  ·rw [TlL.append_eq0 (.inr hrow)];rw [hrow] at HRW;clear h he hu h0 hel uel hend hrow;go_enter Tryz.func55,Tryz.ntmps55;go_wp2_with fail
   refine HRW.out.mono ?_;rintro r w1 ⟨rfl,U1⟩;go_wp2;go_ret;exact ⟨rfl,HH.out w1 U1⟩
  ·rw [hrow] at HRW;have hnn:¬(es.length=0∨rowB es=false):=by
    rintro (h|h)
    ·exact h0 h
    ·rw [hrow] at h;cases h
   have hr0:=row_at hrow 0 (by omega);have hi0e:idx0 es=(es.getD 0 default).index:=rfl;obtain ⟨b,o,hA,himm,k0,k1,_⟩:=he.at4 (show 0<sl.n by omega);have hx0:=(hu 0 (by omega)).i0;rw [←hi0e] at k1 hx0 hr0;have hx1:idx0 es<4611686018427387904:=hr0.2.2.1;rw [Nat.zero_mul,Nat.add_zero] at k1;have hblt:=himm.1;have hsn:sl.n≤1000:=by omega
   have hsp0:(0:Int)<(sl.n:Int):=by omega
   have hcE:B.E.n≤100000:=by omega
   have heE:u.end_=u.off+(B.E.n:Int):=by omega
   have c9:=fun (W:World) (hu:Upd No w W)=>(show W.cell? ⟨B.b,9,none⟩=some B.E.v from (h.no hu).c 9);have c10:=fun (W:World) (hu:Upd No w W)=>(show W.cell? ⟨B.b,10,none⟩=some (.int .u64 u.off) from (h.no hu).c 10);have C9:=qq c9;have C10:=qq c10;clear c9 c10;rw [hA] at HRW ⊢;by_cases hgap:u.end_<idx0 es
   ·have hr:u.append es=none:=by unfold TlL.append;rw [if_neg hnn,if_pos hgap]
    rw [hr];rw [heE] at hgap;clear h he hu h0 hnn hel uel hend hrow hr heE hi0e k0 hr0 ul himm;generalize idx0 es=x at*;go_enter Tryz.func55,Tryz.ntmps55;go_wp2_with fail
    refine HRW.out.mono ?_;rintro r w1 ⟨rfl,U1⟩;have k1:=U1.cell k1 (fun h=>h);have c9:=C9.out w1 U1;have c10:=C10.out w1 U1;have HU1:=qq U1;clear U1;go_wp2_with fail
    go_quiet (fail)
    go_wp2;go_ret;exact ⟨rfl,HH.out _ (HU1.out.drewN _)⟩
   ·have hngap:¬u.off+(B.E.n:Int)<idx0 es:=by omega
    by_cases hlow:idx0 es≤u.off
    ·have hr:u.append es=some {u with es:=es,off:=idx0 es,till:=idx0 es}:=by unfold TlL.append;rw [if_neg hnn,if_neg hgap,if_pos hlow]
     rw [hr];simp only [Option.isSome_some,Option.getD_some];clear h he hu h0 hnn hel uel hend hrow hr heE hi0e k0 hr0 ul himm hgap;generalize idx0 es=x at*;go_enter Tryz.func55,Tryz.ntmps55;go_wp2_with fail
     refine HRW.out.mono ?_;rintro r w1 ⟨rfl,U1⟩;have k1:=U1.cell k1 (fun h=>h);have c9:=C9.out w1 U1;have c10:=C10.out w1 U1;have HU1:=qq U1;clear U1;go_wp2_with fail
     go_quiet (fail)
     obtain ⟨w2,hw2⟩:∃W,W=w1.drewN nq:=⟨_,rfl⟩;have U2:=qq (show Upd No w w2 by rw [hw2];exact HU1.out.drewN nq);rw [←hw2];clear hw2 k1 c9 c10 HU1;have HSP2:=qq (HSP.out w2 U2.out);have HOW:=qq (own_empty (W:=w2.alloc (.cells #[] 104)) (base:=w2.heap.size) (Blk.new w2 104 #[]) (Nat.le_refl _));have HN4:=qq (show 0+(⟨some ⟨b,o,none⟩,sl.n,sl.c⟩:SlV).n≤400000 by simp only;omega);have HZ2:=qq (show w2.heap.size≤(w2.alloc (.cells #[] 104)).heap.size by simp);have HES3:=qq (show Jh N (w2.alloc (.cells #[] 104)) ⟨some ⟨b,o,none⟩,sl.n,sl.c⟩ es by rw [←hA];exact HES.out _ (U2.out.alloc _));have c10:=C10.out w2 U2.out
     go_wp2_with (first
      |(at_builtin;refine app_ents (N:=N) rfl (.tmp 41) (.tmp 42) rfl w2.heap.size (.slice (some ⟨w2.heap.size,0,none⟩) 0 0) 0 [] rfl HOW.out ⟨some ⟨b,o,none⟩,sl.n,sl.c⟩ es rfl HES3.out HN4.out HZ2.out ?_
        intro v9 w9 hown9 hu9 hv9;obtain ⟨s9,rfl,hn9,hr9,_⟩:=own_ents hown9 N;have HU9:=qq (show Upd (fun j=>w2.heap.size≤j) w2 w9 from (((Upd.refl _ w2).alloc _)).trans hu9 (fun j hj=>.inl (by injection hj with hj;exact Nat.le_of_eq hj)));have HB9:=qq (HSP2.out.blk.upd HU9.out (by have:=HSP2.out.blk.lt;omega));have z9:w9.cell? ⟨B.b,9,none⟩=some B.E.v:=HB9.out.cell 9;have z10:w9.cell? ⟨B.b,10,none⟩=some (.int .u64 u.off):=HB9.out.cell 10;have z12:w9.cell? ⟨B.b,12,none⟩=some (.int .u64 u.till):=HB9.out.cell 12;have y9:=HB9.out.frozen;have HR9:=qq hr9
        clear hown9 hu9 hv9 hr9 hn9)
      |fail)
     go_ret;have hu12:Upd (fun k=>k=B.b) w9 (((w9.setCell ⟨B.b,9,none⟩ s9.v).setCell ⟨B.b,10,none⟩ (.int .u64 x)).setCell ⟨B.b,12,none⟩ (.int .u64 x)):=(((Upd.refl (fun k=>k=B.b) w9).setIn rfl 9 _).setIn rfl 10 _).setIn rfl 12 _;have hf12:Fr N w9 _:=hu12.fr (by rintro k rfl;exact HB9.out.mutb HSP2.out.N rfl);have hf9:Fr N w2 w9:=HU9.out.frUp (Nat.le_trans hNw U2.out.size)
     exact ⟨rfl,⟨⟨B.b,B.v,s9⟩,rfl,((HB9.out.set_ 9 _).set_ 10 _).set_ 12 _,(HSP2.out.cf.fr hf9).fr hf12,HR9.out.fr hf12,HSP2.out.N⟩,
      (U2.out.ofNo.trans HU9.out (fun j hj=>.inr (Nat.le_trans U2.out.size hj))).Ke hu12⟩
    ·obtain ⟨k,hk⟩:=Int.eq_ofNat_of_zero_le (show 0≤idx0 es - u.off by omega);have hr:u.append es=some {u with es:=u.es.take k++es,till:=min u.till (idx0 es)}:=by
      unfold TlL.append;rw [if_neg hnn,if_neg hgap,if_neg hlow,hk,Int.toNat_natCast]
     rw [hr];simp only [Option.isSome_some,Option.getD_some];have hkn:k≤B.E.n:=by omega
     have hkc:k≤B.E.c:=by omega
     have j4:IntKind.u64.wrap (idx0 es - u.off)=(k:Int):=by rw [hk];simp [IntKind.wrap_u64];omega
     have j5:(k:Int)≤(B.E.c:Int):=by omega
     clear h he hu h0 hnn hel uel hend hrow hr heE hi0e k0 hr0 ul himm hgap hk;generalize idx0 es=x at*;go_enter Tryz.func55,Tryz.ntmps55;go_wp2_with fail
     refine HRW.out.mono ?_;rintro r w1 ⟨rfl,U1⟩;have k1:=U1.cell k1 (fun h=>h);have c9:=C9.out w1 U1;have c10:=C10.out w1 U1;have HU1:=qq U1;clear U1;go_wp2_with fail
     go_quiet (fail)
     go_wp2_with fail
     obtain ⟨w2,hw2⟩:∃W,W=w1.drewN nq:=⟨_,rfl⟩;have U2:=qq (show Upd No w w2 by rw [hw2];exact HU1.out.drewN nq);rw [←hw2];clear hw2 k1 c9 c10 HU1;have HSP2:=qq (HSP.out w2 U2.out);have HNW2:=qq (Nat.le_trans hNw U2.out.size)
     have HSS:=qq fun (W:World) (hu:Upd (fun j=>w2.heap.size≤j) w2 W)=>(show W.cell? ⟨B.b,10,none⟩=some (.int .u64 u.off)∧W.frozen? ⟨B.b,9,none⟩=false from
      ⟨(HSP2.out.blk.upd hu (by have:=HSP2.out.blk.lt;omega)).cell 10,(HSP2.out.blk.upd hu (by have:=HSP2.out.blk.lt;omega)).frozen 9⟩)
     have HS9:=qq fun (W:World) (hu:Upd (fun j=>w2.heap.size≤j) w2 W)=>(show W.cell? ⟨B.b,9,none⟩=some B.E.v from (HSP2.out.blk.upd hu (by have:=HSP2.out.blk.lt;omega)).cell 9);have HKd:=qq (HSS.out w2.drew (Upd.refl _ _).drew);have HKa:=qq fun (o:Obj)=>HSS.out ((w2.alloc o).drew) (((Upd.refl _ w2).alloc o).drew);have d9:w2.cell? ⟨B.b,9,none⟩=some B.E.v:=HS9.out w2 (Upd.refl _ _);have da9:∀o,(w2.alloc o).cell? ⟨B.b,9,none⟩=some B.E.v:=fun o=>HS9.out _ ((Upd.refl _ w2).alloc o);have HBK:=qq (show ∀o,Upd (fun j=>w2.heap.size≤j) w2 ((w2.alloc o).drew) from fun o=>(((Upd.refl _ w2).alloc o).drew));have HOW:=qq (own_empty (W:=(w2.alloc (.cells #[] 104)).drew) (base:=w2.heap.size) (Blk.new w2 104 #[]) (Nat.le_refl _));have HRT:=qq (show Jh N ((w2.alloc (.cells #[] 104)).drew) ⟨B.E.A,k,B.E.c⟩ (u.es.take k) from (HSP2.out.E.takeS hkn).fr ((((Upd.refl No w2).alloc _).drew).fr0));have HRL:=qq fun (W:World) (hu:Upd (fun j=>w2.heap.size≤j) w2 W)=>(show Jh N W ⟨some ⟨b,o,none⟩,sl.n,sl.c⟩ es by rw [←hA];exact (HES.out w2 U2.out).fr (hu.frUp HNW2.out));have HN4:=qq (show 0+(⟨B.E.A,k,B.E.c⟩:SlV).n≤400000 by simp only;omega);have HN5:=qq (show 0+(⟨B.E.A,k,B.E.c⟩:SlV).n+(⟨some ⟨b,o,none⟩,sl.n,sl.c⟩:SlV).n≤400000 by simp only;omega);have HZ2:=qq (show w2.heap.size≤((w2.alloc (.cells #[] 104)).drew).heap.size by show w2.heap.size≤(w2.alloc (.cells #[] 104)).heap.size;simp);clear hA HES HRW
     refine wp_region_held_drew (S:=(fun W=>W.cell? ⟨B.b,10,none⟩=some (.int .u64 u.off)∧W.frozen? ⟨B.b,9,none⟩=false)) (by kernel_rfl) (HKd.out) (fun hHeld=>?_);refine tk 0 rfl ?_ ?_ ?_;rotate_left 1
     ·intro w hS;go_simp;all_goals with_reducible rfl
     try simp only [NR]
     refine tk 2 rfl ?_ ?_ ?_;rotate_left 1
     ·intro w hS;go_simp;all_goals with_reducible rfl
     try simp only [NR]
     refine tk 3 rfl ?_ ?_ ?_;rotate_left 1
     ·intro w hS;go_simp;all_goals with_reducible rfl
     try simp only [NR]
     refine tk 4 rfl ?_ ?_ ?_;rotate_left 1
     ·intro w hS;go_simp;all_goals with_reducible rfl
     try simp only [NR]
     refine tk 5 rfl ?_ ?_ ?_;rotate_left 1
     ·intro w hS;go_simp;all_goals with_reducible rfl
     try simp only [NR]
     refine tk 7 rfl ?_ ?_ ?_;rotate_left 1
     ·intro w hS;go_simp;all_goals with_reducible rfl
     try simp only [NR]
     refine tk 8 rfl ?_ ?_ ?_;rotate_left 1
     ·intro w hS;go_simp;all_goals with_reducible rfl
     try simp only [NR]
     refine tk 9 rfl ?_ ?_ ?_;rotate_left 1
     ·intro w hS;go_simp;all_goals with_reducible rfl
     try simp only [NR]
     refine tk 10 rfl ?_ ?_ ?_;rotate_left 1
     ·intro w hS;go_simp;all_goals with_reducible rfl
     try simp only [NR]
     refine tk 11 rfl ?_ ?_ ?_;rotate_left 1
     ·intro w hS;go_simp;all_goals with_reducible rfl
     try simp only [NR]
     refine tk 12 rfl ?_ ?_ ?_;rotate_left 1
     ·intro w hS;go_simp;all_goals with_reducible rfl
     try simp only [NR]
     refine tk 13 rfl ?_ ?_ ?_;rotate_left 1
     ·intro w hS;go_simp;all_goals with_reducible rfl
     try simp only [NR]
     refine tk 16 rfl ?_ ?_ ?_;rotate_left 1
     ·intro w hS;go_simp;all_goals with_reducible rfl
     try simp only [NR]
     refine wpAnyH_ready (rs:=[1,6]) (by kernel_rfl) (by simp) ?_;refine AllReadyH.cons (o:=_) rfl (fun K hK=>?_) ?_;focus
      rw [if_pos (by rfl)];go_simp;refine hK.out _ _ (HKa.out _) (fun hHeld=>?_);clear hK;try simp only [NR]
      refine wpAnyH_ready (rs:=[6]) (by kernel_rfl) (by simp) ?_;refine ac rfl fun K hK=>?_;rw [if_pos (by rfl)];go_simp;refine hK.out _ _ (hHeld) (fun hHeld=>?_);clear hK;try simp only [NR]
      refine tk 14 rfl ?_ ?_ ?_;rotate_left 1
      ·intro w hS;go_simp;all_goals with_reducible rfl
      try simp only [NR]
      refine wpAnyH_ready (rs:=[15]) (by kernel_rfl) (by simp) ?_;refine ac rfl fun K hK=>?_;refine step_app_ents rfl (.tmp 58) (.tmp 71) rfl w2.heap.size (.slice (some ⟨w2.heap.size,0,none⟩) 0 0) 0 [] rfl HOW.out ⟨B.E.A,k,B.E.c⟩ (u.es.take k) rfl HRT.out HN4.out HZ2.out ?_;intro v9 w9 hown9 hu9 hv9;have HU9:=qq (show Upd (fun j=>w2.heap.size≤j) w2 w9 from (HBK.out _).trans hu9 (fun j hj=>.inl (by injection hj with hj;exact Nat.le_of_eq hj)))
      have HV9:=qq (show ∀j,v9.ownBlock=some j→w2.heap.size≤j from fun j hj=>by
       rcases hv9 with e|e
       ·rw [hj] at e;injection e with e;have e:j=w2.heap.size:=e;omega
       ·rw [hj] at e;injection e with e;rw [e];exact HZ2.out)
      have HO9:=qq hown9;have HK9:=qq (HSS.out w9 HU9.out);have HRL9:=qq (HRL.out w9 HU9.out);have HZ9:=qq (show w2.heap.size≤w9.heap.size from HU9.out.size);clear hown9 hu9 hv9;refine hK.out _ _ HK9.out (fun hHeld=>?_);clear hK;try simp only [NR]
      refine wpAnyH_ready (rs:=[17]) (by kernel_rfl) (by simp) ?_;refine ac rfl fun K hK=>?_;refine step_app_ents rfl (.tmp 72) (.tmp 73) rfl w2.heap.size v9 (0+(⟨B.E.A,k,B.E.c⟩:SlV).n) ([]++u.es.take k) rfl HO9.out ⟨some ⟨b,o,none⟩,sl.n,sl.c⟩ es rfl HRL9.out HN5.out HZ9.out ?_;intro v10 w10 hown10 hu10 hv10;obtain ⟨s9,rfl,hn9,hr9,_⟩:=own_ents hown10 N;have HU10:=qq (show Upd (fun j=>w2.heap.size≤j) w2 w10 from HU9.out.trans hu10 (fun j hj=>.inl (HV9.out j hj)));have HK10:=qq (HSS.out w10 HU10.out);have HB10:=qq (HSP2.out.blk.upd HU10.out (by have:=HSP2.out.blk.lt;omega));have HK11:=qq fun (x:Value)=>(show (w10.setCell ⟨B.b,9,none⟩ x).cell? ⟨B.b,10,none⟩=some (.int .u64 u.off)∧(w10.setCell ⟨B.b,9,none⟩ x).frozen? ⟨B.b,9,none⟩=false from ⟨(HB10.out.set_ 9 x).cell 10,(HB10.out.set_ 9 x).frozen 9⟩);have z9:=HS9.out w10 HU10.out;have HR9:=qq (show Jh N w10 s9 (u.es.take k++es) from hr9);clear hown10 hu10 hv10 hn9 hr9;refine hK.out _ _ HK10.out (fun hHeld=>?_);clear hK;try simp only [NR]
      refine tk 18 rfl ?_ ?_ ?_;rotate_left 1
      ·intro w hS;go_simp;all_goals with_reducible rfl
      try simp only [NR]
      refine tk 19 rfl ?_ ?_ ?_;rotate_left 1
      ·intro w hS;go_simp;all_goals with_reducible rfl
      try simp only [NR]
      refine tk 20 rfl ?_ ?_ ?_;rotate_left 1
      ·intro w hS;go_simp;all_goals with_reducible rfl
      try simp only [NR]
      refine wpAnyH_ready (rs:=[21]) (by kernel_rfl) (by simp) ?_;refine ac rfl fun K hK=>?_;rw [if_pos (by rfl)];go_simp;refine hK.out _ _ (HK11.out _) (fun hHeld=>?_);clear hK;try simp only [NR]
      refine wpAnyH_done (by kernel_rfl) ?_ _
     rotate_left 1;refine ac rfl fun K hK=>?_;rw [if_pos (by rfl)];go_simp;refine hK.out _ _ (hHeld) (fun hHeld=>?_);clear hK;try simp only [NR]
     refine tk 14 rfl ?_ ?_ ?_;rotate_left 1
     ·intro w hS;go_simp;all_goals with_reducible rfl
     try simp only [NR]
     refine wpAnyH_ready (rs:=[1]) (by kernel_rfl) (by simp) ?_;refine ac rfl fun K hK=>?_;rw [if_pos (by rfl)];go_simp;refine hK.out _ _ (HKa.out _) (fun hHeld=>?_);clear hK;try simp only [NR]
     refine wpAnyH_ready (rs:=[15]) (by kernel_rfl) (by simp) ?_;refine ac rfl fun K hK=>?_;refine step_app_ents rfl (.tmp 58) (.tmp 71) rfl w2.heap.size (.slice (some ⟨w2.heap.size,0,none⟩) 0 0) 0 [] rfl HOW.out ⟨B.E.A,k,B.E.c⟩ (u.es.take k) rfl HRT.out HN4.out HZ2.out ?_;intro v9 w9 hown9 hu9 hv9;have HU9:=qq (show Upd (fun j=>w2.heap.size≤j) w2 w9 from (HBK.out _).trans hu9 (fun j hj=>.inl (by injection hj with hj;exact Nat.le_of_eq hj)))
     have HV9:=qq (show ∀j,v9.ownBlock=some j→w2.heap.size≤j from fun j hj=>by
      rcases hv9 with e|e
      ·rw [hj] at e;injection e with e;have e:j=w2.heap.size:=e;omega
      ·rw [hj] at e;injection e with e;rw [e];exact HZ2.out)
     have HO9:=qq hown9;have HK9:=qq (HSS.out w9 HU9.out);have HRL9:=qq (HRL.out w9 HU9.out);have HZ9:=qq (show w2.heap.size≤w9.heap.size from HU9.out.size);clear hown9 hu9 hv9;refine hK.out _ _ HK9.out (fun hHeld=>?_);clear hK;try simp only [NR]
     refine wpAnyH_ready (rs:=[17]) (by kernel_rfl) (by simp) ?_;refine ac rfl fun K hK=>?_;refine step_app_ents rfl (.tmp 72) (.tmp 73) rfl w2.heap.size v9 (0+(⟨B.E.A,k,B.E.c⟩:SlV).n) ([]++u.es.take k) rfl HO9.out ⟨some ⟨b,o,none⟩,sl.n,sl.c⟩ es rfl HRL9.out HN5.out HZ9.out ?_;intro v10 w10 hown10 hu10 hv10;obtain ⟨s9,rfl,hn9,hr9,_⟩:=own_ents hown10 N;have HU10:=qq (show Upd (fun j=>w2.heap.size≤j) w2 w10 from HU9.out.trans hu10 (fun j hj=>.inl (HV9.out j hj)));have HK10:=qq (HSS.out w10 HU10.out);have HB10:=qq (HSP2.out.blk.upd HU10.out (by have:=HSP2.out.blk.lt;omega));have HK11:=qq fun (x:Value)=>(show (w10.setCell ⟨B.b,9,none⟩ x).cell? ⟨B.b,10,none⟩=some (.int .u64 u.off)∧(w10.setCell ⟨B.b,9,none⟩ x).frozen? ⟨B.b,9,none⟩=false from ⟨(HB10.out.set_ 9 x).cell 10,(HB10.out.set_ 9 x).frozen 9⟩);have z9:=HS9.out w10 HU10.out;have HR9:=qq (show Jh N w10 s9 (u.es.take k++es) from hr9);clear hown10 hu10 hv10 hn9 hr9;refine hK.out _ _ HK10.out (fun hHeld=>?_);clear hK;try simp only [NR]
     refine tk 18 rfl ?_ ?_ ?_;rotate_left 1
     ·intro w hS;go_simp;all_goals with_reducible rfl
     try simp only [NR]
     refine tk 19 rfl ?_ ?_ ?_;rotate_left 1
     ·intro w hS;go_simp;all_goals with_reducible rfl
     try simp only [NR]
     refine tk 20 rfl ?_ ?_ ?_;rotate_left 1
     ·intro w hS;go_simp;all_goals with_reducible rfl
     try simp only [NR]
     refine wpAnyH_ready (rs:=[21]) (by kernel_rfl) (by simp) ?_;refine ac rfl fun K hK=>?_;rw [if_pos (by rfl)];go_simp;refine hK.out _ _ (HK11.out _) (fun hHeld=>?_);clear hK;try simp only [NR]
     refine wpAnyH_done (by kernel_rfl) ?_ _;all_goals
      have HB11:=qq (HB10.out.set_ 9 s9.v);have x12:(w10.setCell ⟨B.b,9,none⟩ s9.v).cell? ⟨B.b,12,none⟩=some (.int .u64 u.till):=HB11.out.cell 12;have y12:(w10.setCell ⟨B.b,9,none⟩ s9.v).frozen? ⟨B.b,12,none⟩=false:=HB11.out.frozen 12
      have HFIN:=qq (show (∃B',B'.b=B.b∧SpTl N ((w10.setCell ⟨B.b,9,none⟩ s9.v).setCell ⟨B.b,12,none⟩ (.int .u64 (min u.till x))) B' {u with es:=u.es.take k++es,till:=min u.till x})∧Upd (fun k=>k=B.b) w ((w10.setCell ⟨B.b,9,none⟩ s9.v).setCell ⟨B.b,12,none⟩ (.int .u64 (min u.till x))) from by
       have hu12:Upd (fun k=>k=B.b) w10 ((w10.setCell ⟨B.b,9,none⟩ s9.v).setCell ⟨B.b,12,none⟩ (.int .u64 (min u.till x))):=((Upd.refl (fun k=>k=B.b) w10).setIn rfl 9 _).setIn rfl 12 _;have hf12:=hu12.fr (N:=N) (by rintro k rfl;exact HB10.out.mutb HSP2.out.N rfl);have hf9:Fr N w2 w10:=HU10.out.frUp HNW2.out
       exact ⟨⟨⟨B.b,B.v,s9⟩,rfl,HB11.out.set_ 12 _,(HSP2.out.cf.fr hf9).fr hf12,HR9.out.fr hf12,HSP2.out.N⟩,(U2.out.ofNo.trans HU10.out (fun j hj=>.inr (Nat.le_trans U2.out.size hj))).Ke hu12⟩)
      obtain ⟨w11,hw11⟩:∃W,W=w10.setCell ⟨B.b,9,none⟩ s9.v:=⟨_,rfl⟩;rw [←hw11] at HFIN x12 y12 ⊢;clear hw11 HB11 HK10 HK11 z9 HR9 HU10 HB10 HKd HKa d9 da9 HBK HOW HRT HRL HN4 HN5 HZ2 HSS HS9 j4 HO9 HV9 HK9 HRL9 HZ9 HU9;go_wp2;go_ret;exact ⟨rfl,HFIN.out⟩
end
section
variable {N:Nat} {w w':World} {S:Nat→Prop} {A:StK} {s:StL} {B:TlK} {u:TlL} {l:Nat} {g:LgL}
theorem spLgAppend (h:Ka N w l A B g) (hs:g.Sm) {sl:SlV} {es:List Ent} (he:Jh N w sl es) (hu:AllU es) (hlen:es.length≤1000):
  Calls Tryz.prog 21 #[.pointer (some ⟨l,0,none⟩),.slice sl.A sl.n sl.c] w fun e w'=>e=.returned (.bool (g.append es).isSome)∧(∃B',B'.b=B.b∧Ka N w' l A B' ((g.append es).getD g))∧Upd (spS l A B) w w':=by
 have HRW:=qq fun (n:Nat)=>spRow (he.fr ((Upd.refl No w).drewN n).fr0) hu (by have:=he.len;omega);have HL:=qq fun (n:Nat)=>spLast (h.drewN n) hs.s hs.u;have HH:=qq fun (W:World) (hu:Upd No w W)=>(show (∃B',B'.b=B.b∧Ka N W l A B' g)∧Upd (spS l A B) w W from ⟨⟨B,rfl,h.no hu⟩,hu.ofNo⟩);have hel:=he.len;have hlb:=hs.last_bd;by_cases h0:es.length=0
 ·have hr:g.append es=some g:=by unfold LgL.append;rw [if_pos h0]
  rw [hr];simp only [Option.isSome_some,Option.getD_some];obtain ⟨n0,hn0⟩:∃n,n=sl.n:=⟨_,rfl⟩;have hn0':n0=0:=by omega
  rw [←hn0,hn0'];clear h hs he hu h0 hel hr hn0 hn0';go_enter Tryz.func21,Tryz.ntmps21;go_wp2;go_ret;exact ⟨rfl,HH.out w (Upd.refl _ _)⟩
 ·have hnz:(sl.n==0)=false:=beq_eq_false_iff_ne.2 (by omega);have hnz2:((sl.n:Int)==0)=false:=beq_eq_false_iff_ne.2 (by omega);have hnz3:¬sl.n=0:=by omega
  rcases hrow:rowB es with _|_
  ·have hr:g.append es=none:=by unfold LgL.append;rw [if_neg h0,if_pos (.inl hrow)]
   rw [hr];rw [hrow] at HRW;clear h hs he hu h0 hel hr hrow;go_enter Tryz.func21,Tryz.ntmps21;go_wp2_with fail
   go_quiet (first|(go_at_call 54;exact Ji (HRW.out _))|(go_at_call 22;exact Ji (HL.out _)))
   go_wp2;go_ret;exact ⟨rfl,HH.out _ ((Upd.refl No w).drewN _)⟩
  ·rw [hrow] at HRW;have hr0:=row_at hrow 0 (by omega);have hi0e:idx0 es=(es.getD 0 default).index:=rfl;obtain ⟨b,o,hA,himm,k0,k1,_⟩:=he.at4 (show 0<sl.n by omega);have hx0:=(hu 0 (by omega)).i0;rw [←hi0e] at k1 hx0 hr0;have hx1:idx0 es<4611686018427387904:=hr0.2.2.1;rw [Nat.zero_mul,Nat.add_zero] at k1;have hsp0:(0:Int)<(sl.n:Int):=by omega
   have hsn:sl.n≤1000:=by omega
   have c2:w.cell? ⟨l,2,none⟩=some (.int .u64 g.com):=h.c 2;by_cases h1:idx0 es≤g.com
   ·have hr:g.append es=none:=by unfold LgL.append;rw [if_neg h0,if_pos (.inr (.inl h1))]
    rw [hr];have hd1:decide (idx0 es≤g.com)=true:=decide_eq_true h1;rw [hA] at HRW ⊢;clear h hs he hu h0 hel hr hrow hi0e k0 hr0 himm h1;generalize idx0 es=x at*;go_enter Tryz.func21,Tryz.ntmps21;go_wp2_with fail
    go_quiet (first|(go_at_call 54;exact Ji (HRW.out _))|(go_at_call 22;exact Ji (HL.out _)))
    go_wp2;go_ret;exact ⟨rfl,HH.out _ ((Upd.refl No w).drewN _)⟩
   ·have hd1:decide (idx0 es≤g.com)=false:=decide_eq_false h1;by_cases h2:g.last+1<idx0 es
    ·have hr:g.append es=none:=by unfold LgL.append;rw [if_neg h0,if_pos (.inr (.inr h2))]
     rw [hr];have hd2:decide (g.last+1<idx0 es)=true:=decide_eq_true h2;rw [hA] at HRW ⊢;clear h hs he hu h0 hel hr hrow hi0e k0 hr0 himm h1 h2;generalize idx0 es=x at*;generalize g.last=la at*;go_enter Tryz.func21,Tryz.ntmps21;go_wp2_with fail
     go_quiet (first|(go_at_call 54;exact Ji (HRW.out _))|(go_at_call 22;exact Ji (HL.out _)))
     go_wp2;go_ret;exact ⟨rfl,HH.out _ ((Upd.refl No w).drewN _)⟩
    ·have hd2:decide (g.last+1<idx0 es)=false:=decide_eq_false h2;have hnn:¬(rowB es=false∨idx0 es≤g.com∨g.last+1<idx0 es):=by
      rintro (h|h|h)
      ·rw [hrow] at h;cases h
      ·exact h1 h
      ·exact h2 h
     have hr:g.append es=(g.u.append es).map fun u=>{g with u:=u}:=by unfold LgL.append;rw [if_neg h0,if_neg hnn]
     have hr1:(g.append es).isSome=(g.u.append es).isSome:=by rw [hr];cases g.u.append es<;>rfl
     have hr2:(g.append es).getD g= {g with u:=(g.u.append es).getD g.u}:=by rw [hr];cases g.u.append es<;>rfl
     rw [hr1,hr2];have c1:w.cell? ⟨l,1,none⟩=some (pp B.b):=h.c 1
     have HT:=qq fun (n:Nat)=>(spTlAppend (h.drewN n).tl hs.u (he.fr ((Upd.refl No w).drewN n).fr0) hu hlen).mono fun e w' hq=>(show e=.returned (.bool (g.u.append es).isSome)∧(∃B',B'.b=B.b∧Ka N w' l A B' {g with u:=(g.u.append es).getD g.u})∧Upd (spS l A B) w w' from by
      obtain ⟨h1,⟨B',hb,ht⟩,hu⟩:=hq;obtain ⟨h2,h3⟩:=(h.drewN n).of_tl ht hb hu
      exact ⟨h1,⟨B',hb,h2⟩,((Upd.refl (spS l A B) w).drewN n).Ke h3⟩)
     rw [hA] at HRW HT ⊢;clear h hs he hu h0 hel hr hr1 hr2 hnn hrow hi0e k0 hr0 himm h1 h2;generalize idx0 es=x at*;generalize g.last=la at*;go_enter Tryz.func21,Tryz.ntmps21;go_wp2_with fail
     go_quiet (first|(go_at_call 54;exact Ji (HRW.out _))|(go_at_call 22;exact Ji (HL.out _)))
     go_wp2_with fail
     refine (HT.out _).mono ?_;rintro r w1 ⟨rfl,h5⟩;have H5:=qq h5;clear h5;go_wp2;go_ret;exact ⟨rfl,H5.out⟩
end
end Go.Proofs.YtmagnkjodjmojaaGreat
