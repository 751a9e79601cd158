/- A part of the proof of FnLog: laws and walks, with their conditions written at each. -/
import Derived.Laws.ResultCell
import Derived.Test.YtmagnkjodjmojaaGreatQ16
import Derived.Test.YtmagnkjodjmojaaGreatQ26
set_option maxRecDepth 20000
set_option maxHeartbeats 4000000
set_option linter.all false
namespace Go.Proofs.YtmagnkjodjmojaaGreat
open Go.RowKit
section
variable {N:Nat} {w w':World} {S:Nat→Prop} {I:StK} {s:StL} {B:TlK} {u:TlL} {l:Nat} {g:LgL}
def lenOf:Value→Nat
 | .slice _ n _=>n
 |_=>0
theorem dropW_step {a:Int} {es:List Ent} {k:Nat} (hk:k<es.length) (h:(es.getD k default).index≤a):(es.drop k).dropWhile (fun e=>decide (e.index≤a))=(es.drop (k+1)).dropWhile (fun e=>decide (e.index≤a)):=by
 rw [drop_cons_getD hk,List.dropWhile_cons,if_pos (decide_eq_true h)]
theorem dropW_stop {a:Int} {es:List Ent} {k:Nat} (h:k<es.length→¬(es.getD k default).index≤a):(es.drop k).dropWhile (fun e=>decide (e.index≤a))=es.drop k:=by
 rcases Nat.lt_or_ge k es.length with hk|hk
 ·rw [drop_cons_getD hk,List.dropWhile_cons,if_neg (by simpa using h hk)]
 ·rw [List.drop_eq_nil_of_le hk];rfl
def StAppR (N:Nat) (w:World) (s:StL) (es:List Ent) (I:StK) (e:Ending) (W:World):Prop:=
 ∃s',s.append es=some s'∧e=.returned (.bool true)∧(∃I',I'.b=I.b∧Kb N W I' s')∧Upd (fun k=>k=I.b) w W
theorem spStAppend (h:Kb N w I s) (hs:s.Sm) {sl:SlV} {es:List Ent} (he:Jh N w sl es) (hu:AllU es) (hlen:es.length≤1000):
  Calls Tryz.prog 50 #[.pointer (some ⟨I.b,0,none⟩),.slice sl.A sl.n sl.c] w fun e w'=>e=.returned (.bool (s.append es).isSome)∧(∃I',I'.b=I.b∧Kb N w' I' ((s.append es).getD s))∧Upd (fun k=>k=I.b) w w':=by
 have HRW:=qq fun (n:Nat)=>spRow (he.fr ((Upd.refl No w).drewN n).fr0) hu (by have:=he.len;omega);have HL:=qq fun (n:Nat)=>spStLast (h.drewN n) hs;have HH:=qq fun (W:World) (hu:Upd No w W)=>(show (∃I',I'.b=I.b∧Kb N W I' s)∧Upd (fun k=>k=I.b) w W from ⟨⟨I,rfl,h.no hu⟩,hu.ofNo⟩);have HSP:=qq fun (W:World) (hu:Upd No w W)=>h.no hu;have HES:=qq fun (W:World) (hu:Upd No w W)=>(show Jh N W sl es from he.fr hu.fr0);have HSM:=qq hs;have hNw:=qq (Nat.le_trans h.N (Nat.le_of_lt h.blk.lt));have hel:=he.len;have hi0:=hs.i0;have hi1:=hs.i1;have hLl:=hs.len;have hLe:=h.L.len;have hls:s.last=s.atI+s.L.length:=rfl;rcases hrow:rowB es with _|_
 ·have hr:s.append es=none:=by unfold StL.append;rw [if_neg (by rw [hrow];rintro ⟨h,_⟩;cases h)]
  rw [hr];rw [hrow] at HRW;clear h hs he hu hel hr hrow;go_enter Tryz.func50,Tryz.ntmps50;go_wp2_with fail
  go_quiet (first|(go_at_call 54;exact Ji (HRW.out _))|(go_at_call 32;exact Ji (HL.out _)))
  go_wp2;go_ret;exact ⟨rfl,HH.out _ ((Upd.refl No w).drewN _)⟩
 ·rw [hrow] at HRW;by_cases hgap:0<es.length∧s.last+1<idx0 es
  ·have hr:s.append es=none:=by unfold StL.append;rw [if_neg (fun h=>h.2 hgap)]
   rw [hr];obtain ⟨b,o,hA,himm,k0,k1,_⟩:=he.at4 (show 0<sl.n by omega);rw [show (es.getD 0 default).index=idx0 es from rfl,Nat.zero_mul,Nat.add_zero] at k1;have hd1:decide ((0:Int)<(sl.n:Int))=true:=decide_eq_true (by omega);have hd2:decide (0<sl.n)=true:=decide_eq_true (by omega);have hd2':0<sl.n:=by omega
   have hd3:decide (s.last+1<idx0 es)=true:=decide_eq_true hgap.2;have hsp0:(0:Int)<(sl.n:Int):=by omega
   have hx1:s.last+1<18446744073709551616:=by omega
   have hx0:0≤s.last+1:=by omega
   rw [hA] at HRW ⊢;clear h hs he hu hel hr hrow hgap k0 himm hls;generalize idx0 es=x at*;generalize s.last=la at*;go_enter Tryz.func50,Tryz.ntmps50;go_wp2_with fail
   go_quiet (first|(go_at_call 54;exact Ji (HRW.out _))|(go_at_call 32;exact Ji (HL.out _)))
   go_wp2;go_ret;exact ⟨rfl,HH.out _ ((Upd.refl No w).drewN _)⟩
  ·have hr:s.append es=(if 0<(es.dropWhile fun e=>decide (e.index≤s.atI)).length then
     some {s with L:=s.L.take (idx0 (es.dropWhile fun e=>decide (e.index≤s.atI)) - s.first).toNat++es.dropWhile fun e=>decide (e.index≤s.atI)} else some s):=by
    unfold StL.append;rw [if_pos ⟨hrow,hgap⟩]
   have hrow':∀j,j<es.length→(es.getD j default).index=idx0 es+j:=fun j hj=>(row_at hrow j hj).1;have hrow2:∀j,j<es.length→0≤(es.getD j default).index∧(es.getD j default).index<4611686018427387904:=fun j hj=>⟨(hu j hj).i0,(row_at hrow j hj).2.2.1⟩;have HROW:=qq hrow';have HROW2:=qq hrow2;have HGAP:=qq hgap;have HR:=qq hr;have HLS:=qq hls;obtain ⟨d,hd⟩:∃X,X=es.dropWhile fun e=>decide (e.index≤s.atI):=⟨_,rfl⟩;rw [←hd] at HR;have HD:=qq hd;have HEL:=qq hel;have HLE:=qq hLe;have HLL:=qq hLl;have hsl:sl.n≤1000:=by omega
   have hLn:I.L.n≤100000:=by omega
   have HRES:=qq (show ∀(e:Ending) (W:World) (s':StL),s.append es=some s'→e=.returned (.bool true)→(∃I',I'.b=I.b∧Kb N W I' s')→Upd (fun k=>k=I.b) w W→e=.returned (.bool (s.append es).isSome)∧(∃I',I'.b=I.b∧Kb N W I' ((s.append es).getD s))∧Upd (fun k=>k=I.b) w W from fun e W s' h1 h2 h3 h4=>by rw [h1];exact ⟨h2,h3,h4⟩);have HPOST:=qq (show ∀(e:Ending) (W:World),(∃s',s.append es=some s'∧e=.returned (.bool true)∧(∃I',I'.b=I.b∧Kb N W I' s')∧Upd (fun k=>k=I.b) w W)→e=.returned (.bool (s.append es).isSome)∧(∃I',I'.b=I.b∧Kb N W I' ((s.append es).getD s))∧Upd (fun k=>k=I.b) w W from fun e W ⟨s',h1,h2,h3,h4⟩=>by rw [h1];exact ⟨h2,h3,h4⟩)
   suffices HC:Calls Tryz.prog 50 #[pp I.b,.slice sl.A sl.n sl.c] w (fun e W=>StAppR N w s es I e W) from HC.mono fun e W hq=>HPOST.out e W hq
   have k0:=fun (hz:0<sl.n)=>(show ∃b o,sl.A=some ⟨b,o,none⟩∧w.cell? ⟨b,o+1,none⟩=some (.int .u64 (idx0 es)) by
    obtain ⟨b,o,hA,himm,k0,k1,_⟩:=he.at4 hz;rw [show (es.getD 0 default).index=idx0 es from rfl,Nat.zero_mul,Nat.add_zero] at k1
    exact ⟨b,o,hA,k1⟩)
   have K0:=qq k0;have hcl:s.last<18446744073709551615:=by omega
   have hx:=fun (hz:0<es.length)=>(show idx0 es≤s.last+1 by
    rcases Nat.lt_or_ge 0 es.length with h|h
    ·rcases Int.lt_or_le (s.last+1) (idx0 es) with h2|h2
     ·exact absurd ⟨h,h2⟩ hgap
     ·exact h2
    ·omega)
   have HX:=qq hx;clear h hs he hu hr hrow hgap hrow' hrow2 hls hd hLe hLl k0 hx HRES HPOST HGAP;generalize idx0 es=x at*;generalize s.last=la at*;rcases Nat.eq_zero_or_pos sl.n with hz|hz
   focus
    have HZ:=qq hz;rw [hz] at HRW ⊢;clear hel hz;go_enter Tryz.func50,Tryz.ntmps50;go_wp2_with fail
    go_quiet (first|(go_at_call 54;exact Ji (HRW.out _))|(go_at_call 32;exact Ji (HL.out _)))
    go_wp2_with fail
   rotate_left 1;focus
    obtain ⟨b,o,hA,k1⟩:=K0.out hz;have hd1:decide ((0:Int)<(sl.n:Int))=true:=decide_eq_true (by omega);have hd2:decide (0<sl.n)=true:=decide_eq_true (by omega);have hd2':0<sl.n:=by omega
    have hsp0:(0:Int)<(sl.n:Int):=by omega
    have hd3:decide (la+1<x)=false:=decide_eq_false (by have:=HX.out (by omega);omega);have hlm:0≤la+1:=by have:=HLS.out;omega
    have hlm2:la+1<18446744073709551616:=by omega
    rw [hA] at HRW ⊢;clear hel;go_enter Tryz.func50,Tryz.ntmps50;go_wp2_with fail
    go_quiet (first|(go_at_call 54;exact Ji (HRW.out _))|(go_at_call 32;exact Ji (HL.out _)))
    rw [←hA];go_wp2_with fail
    clear hd1 hd2 hd2' hd3 hsp0 hlm hlm2 k1 hz
   all_goals
    go_loopw [1] (fun v wr=>∃(k:Nat) (tA:Option Addr) (tn tc:Nat),v=.slice tA tn tc∧k≤sl.n∧tn=sl.n - k∧Hid (Upd No w wr)∧Hid (Jh N wr ⟨tA,tn,tc⟩ (es.drop k))∧Hid (d=(es.drop k).dropWhile fun e=>decide (e.index≤s.atI))∧Hid (∀j,j<k→(es.getD j default).index≤s.atI)) (fun v _=>lenOf v)
    case atStart=>
     exact ⟨0,sl.A,sl.n,sl.c,by first|rfl|(rw [HZ.out]),Nat.zero_le _,by simp,qq ((Upd.refl No w).drewN _),qq (HES.out _ ((Upd.refl No w).drewN _)),qq HD.out,qq (fun j hj=>absurd hj (by omega))⟩
    case round=>
     obtain ⟨k,tA,tn,tc,rfl,hk,htn,hu,hr,hd,hj⟩:=hrel;rcases Nat.eq_zero_or_pos tn with hz|hz
     ·subst hz;have hkn:k=es.length:=by have:=HEL.out;omega
      have hd0:d=[]:=by rw [hd.out,List.drop_eq_nil_of_le (by omega)];rfl
      have hrs:s.append es=some s:=by rw [HR.out,hd0];rfl
      have HRS:=qq hrs;have HU:=qq hu.out;clear hrs hd0 hkn htn hk hr hd hj;go_wp2_with fail
      go_quiet (fail)
      go_wp2;go_ret;exact ⟨s,HRS.out,rfl,⟨I,rfl,HSP.out _ (HU.out.drewN _)⟩,(HU.out.drewN _).ofNo⟩
     ·obtain ⟨b',o',hA',himm',k0',k1',_⟩:=hr.out.at4 (show 0<(⟨tA,tn,tc⟩:SlV).n from hz);simp only at hA';subst hA';simp only [getD_drop,Nat.add_zero,Nat.zero_mul] at k1';have hkl:k<es.length:=by have:=HEL.out;omega
      have hsp0':(0:Int)<(tn:Int):=by omega
      have hsp1:(1:Int)≤(tn:Int):=by omega
      have hsp2:0<tn:=hz;have hdd:decide ((0:Int)<(tn:Int))=true:=decide_eq_true (by omega);have hdd2:decide (0<tn)=true:=decide_eq_true hz;have hyb:=HROW2.out k hkl;by_cases hle:(es.getD k default).index≤s.atI
      ·have hd':=qq (hd.out.trans (dropW_step hkl hle))
       have hj':=qq (show ∀j,j<k+1→(es.getD j default).index≤s.atI from fun j hj2=>by
        rcases Nat.lt_or_ge j k with h|h
        ·exact hj.out j h
        ·obtain rfl:j=k:=by omega
         exact hle)
       have HKL:=qq hkl;have c13:wr.cell? ⟨I.b,13,none⟩=some (.int .u64 s.atI):=(HSP.out wr hu.out).c 13;have hdl:decide ((es.getD k default).index≤s.atI)=true:=decide_eq_true hle;generalize (es.getD k default).index=y at*
       have hr':=qq (show Jh N wr ⟨if tc=1 then some ⟨b',o',none⟩ else some ⟨b',o'+4,none⟩,tn - 1,tc - 1⟩ (es.drop (k+1)) from by
        have h9:=hr.out.dropS (k:=1) hz;rw [List.drop_drop] at h9;have e:Option.map (fun x=>x.add (1*4)) (some (⟨b',o',none⟩:Addr))=some ⟨b',o'+4,none⟩:=by simp [Addr.add]
        simp only [e] at h9
        exact h9)
       have HTN:=qq htn;have HU:=qq hu.out;have hsp1:(1:Int)≤(tn:Int):=by omega
       clear hle hd hj hkl hr himm' k0' htn;go_wp2_with fail
       go_quiet (fail)
       go_wp2_with fail
       exact ⟨⟨k+1,_,_,_,rfl,by have:=HKL.out;have:=HEL.out;omega,by have:=HTN.out;omega,qq (HU.out.drewN _),qq (hr'.out.fr (((Upd.refl No wr).drewN _).fr0)),hd',hj'⟩,by simp only [lenOf];omega⟩
      ·have hdk:=hd.out.trans (dropW_stop (a:=s.atI) (es:=es) (k:=k) (fun _=>hle));have hdl:decide ((es.getD k default).index≤s.atI)=false:=decide_eq_false hle;have hix:=HROW.out k hkl;have hxk:(es.getD k default).index≤la+1:=by
        rcases Nat.eq_zero_or_pos k with h|h
        ·subst h;have:=HX.out (by omega);omega
        ·have h1:=hj.out (k - 1) (by omega);have h2:=HROW.out (k - 1) (by omega);have h3:=HLS.out;omega
       obtain ⟨m,hm⟩:=Int.eq_ofNat_of_zero_le (show 0≤(es.getD k default).index - s.first by unfold StL.first;omega);have hmn:m≤I.L.n:=by have h3:=HLS.out;have h4:=HLE.out;unfold StL.first at hm;omega
       have hd0:idx0 d=(es.getD k default).index:=by rw [hdk];unfold idx0;rw [getD_drop,Nat.add_zero]
       have hrs:s.append es=some {s with L:=s.L.take m++es.drop k}:=by
        rw [HR.out,if_pos (by rw [hdk];simp;omega),hd0,hm,Int.toNat_natCast,hdk]
       have HRS:=qq hrs;have c13:wr.cell? ⟨I.b,13,none⟩=some (.int .u64 s.atI):=(HSP.out wr hu.out).c 13;have HF:=qq fun (W:World) (hu:Upd No w W)=>spStFirst (HSP.out W hu) HSM.out;have jw:IntKind.u64.wrap ((es.getD k default).index - s.first)=(m:Int):=by rw [hm];simp [IntKind.wrap_u64];omega
       have hmc:m≤I.L.c:=Nat.le_trans hmn (HSP.out w (Upd.refl _ _)).L.cap;have hblt:=himm'.1;generalize (es.getD k default).index=y at*;have HTN:=qq htn;have HM:=qq hm;have HU:=qq hu.out;have HRX:=qq hr.out;clear hle hd hj hdk hd0 hm hix hxk hrs hyb htn hr hu k0' himm';go_wp2_with fail
       go_quiet (fail)
       go_wp2_with fail
       obtain ⟨w6,hw6⟩:∃W,W=wr.drewN nq:=⟨_,rfl⟩;have HU6:=qq (show Upd No wr w6 by rw [hw6];exact (Upd.refl No wr).drewN nq);rw [←hw6];clear hw6 hdl hdd hdd2 c13 K0 HR HD HX HROW HROW2 HRW HL;have HUW:=qq (HU.out.no HU6.out);have HSP6:=qq (HSP.out w6 HUW.out);have HNW6:=qq (Nat.le_trans hNw.out HUW.out.size)
       have HSS:=qq fun (W:World) (hu:Upd (fun j=>w6.heap.size≤j) w6 W)=>(show W.cell? ⟨I.b,14,none⟩=some (.slice I.L.A I.L.n I.L.c)∧W.cell? ⟨b',o'+1,none⟩=some (.int .u64 y) from
        ⟨(HSP6.out.blk.upd hu (by have:=HSP6.out.blk.lt;omega)).cell 14,hu.cell (HU6.out.cell k1' (fun h=>h)) (by have:=HU6.out.size;omega)⟩)
       have HKd:=qq (HSS.out w6.drew (Upd.refl _ _).drew);have HKa:=qq fun (o:Obj)=>HSS.out ((w6.alloc o).drew) (((Upd.refl _ w6).alloc o).drew);have HF6:=qq fun (o:Obj)=>(HF.out ((w6.alloc o).drew) (HUW.out.alloc o).drew);have HF7:=qq (HF.out w6.drew HUW.out.drew);have HBK:=qq (show ∀o,Upd (fun j=>w6.heap.size≤j) w6 ((w6.alloc o).drew) from fun o=>(((Upd.refl _ w6).alloc o).drew));have HOW:=qq (own_empty (W:=(w6.alloc (.cells #[] 104)).drew) (base:=w6.heap.size) (Blk.new w6 104 #[]) (Nat.le_refl _));have HRT:=qq (show Jh N ((w6.alloc (.cells #[] 104)).drew) ⟨I.L.A,m,I.L.c⟩ (s.L.take m) from (HSP6.out.L.takeS hmn).fr ((((Upd.refl No w6).alloc _).drew).fr0));have HRL:=qq fun (W:World) (hu:Upd (fun j=>w6.heap.size≤j) w6 W)=>(show Jh N W ⟨some ⟨b',o',none⟩,tn,tc⟩ (es.drop k) from (HRX.out.fr HU6.out.fr0).fr (hu.frUp HNW6.out));have HN4:=qq (show 0+(⟨I.L.A,m,I.L.c⟩:SlV).n≤400000 by simp only;omega);have HN5:=qq (show 0+(⟨I.L.A,m,I.L.c⟩:SlV).n+(⟨some ⟨b',o',none⟩,tn,tc⟩:SlV).n≤400000 by have:=HTN.out;simp only;omega);have HZ2:=qq (show w6.heap.size≤((w6.alloc (.cells #[] 104)).drew).heap.size by show w6.heap.size≤(w6.alloc (.cells #[] 104)).heap.size;simp);have jm:(m:Int)≤(I.L.c:Int):=by omega
       clear k1' hblt hk hkl;generalize s.first=fi at*;go_region_held3 (fun W=>W.cell? ⟨I.b,14,none⟩=some (.slice I.L.A I.L.n I.L.c)∧W.cell? ⟨b',o'+1,none⟩=some (.int .u64 y))
        (first
         |(with_reducible exact HKd.out)
         |(with_reducible exact HKa.out _)
         |(with_reducible exact HK9.out))
        (first
         |(go_at_call 34
           first
            |((with_reducible refine (HF6.out _).mono ?_);rintro r w7 ⟨rfl,rfl⟩)
            |((with_reducible refine HF7.out.mono ?_);rintro r w7 ⟨rfl,rfl⟩))
         |(with_reducible refine step_app_ents rfl (.tmp 44) (.tmp 56) rfl w6.heap.size (.slice (some ⟨w6.heap.size,0,none⟩) 0 0) 0 [] rfl HOW.out ⟨I.L.A,m,I.L.c⟩ (s.L.take m) rfl HRT.out HN4.out HZ2.out ?_
           intro v9 w9 hown9 hu9 hv9;have HU9:=qq (show Upd (fun j=>w6.heap.size≤j) w6 w9 from (HBK.out _).trans hu9 (fun j hj=>.inl (by injection hj with hj;exact Nat.le_of_eq hj)))
           have HV9:=qq (show ∀j,v9.ownBlock=some j→w6.heap.size≤j from fun j hj=>by
            rcases hv9 with e|e
            ·rw [hj] at e;injection e with e;have e:j=w6.heap.size:=e;omega
            ·rw [hj] at e;injection e with e;rw [e];exact HZ2.out)
           have HO9:=qq hown9;have HK9:=qq (HSS.out w9 HU9.out);have HRL9:=qq (HRL.out w9 HU9.out);have HZ9:=qq (show w6.heap.size≤w9.heap.size from HU9.out.size)
           clear hown9 hu9 hv9))
       all_goals
        have HB9:=qq (HSP6.out.blk.upd HU9.out (by have:=HSP6.out.blk.lt;omega))
        go_wp2_with (first
         |(at_builtin;refine app_ents (N:=N) rfl (.tmp 59) (.tmp 60) rfl w6.heap.size v9 (0+(⟨I.L.A,m,I.L.c⟩:SlV).n) ([]++s.L.take m) rfl HO9.out ⟨some ⟨b',o',none⟩,tn,tc⟩ (es.drop k) rfl HRL9.out HN5.out HZ9.out ?_
           intro v10 w10 hown10 hu10 hv10;obtain ⟨s9,rfl,hn9,hr9,_⟩:=own_ents hown10 N;have HU10:=qq (show Upd (fun j=>w6.heap.size≤j) w6 w10 from HU9.out.trans hu10 (fun j hj=>.inl (HV9.out j hj)));have HB10:=qq (HSP6.out.blk.upd HU10.out (by have:=HSP6.out.blk.lt;omega));have z14:w10.cell? ⟨I.b,14,none⟩=some (.slice I.L.A I.L.n I.L.c):=HB10.out.cell 14;have y14:=HB10.out.frozen 14;have HR9:=qq (show Jh N w10 s9 (s.L.take m++es.drop k) from hr9)
           clear hown10 hu10 hv10 hr9 hn9)
         |fail)
        go_ret;have hu12:Upd (fun k=>k=I.b) w10 (w10.setCell ⟨I.b,14,none⟩ (.slice s9.A s9.n s9.c)):=(Upd.refl (fun k=>k=I.b) w10).setIn rfl 14 _;have hf12:=hu12.fr (N:=N) (by rintro k rfl;exact HB10.out.mutb HSP6.out.N rfl);have hf9:Fr N w6 w10:=HU10.out.frUp HNW6.out
        exact ⟨_,HRS.out,rfl,⟨⟨I.b,I.v,s9,I.x,I.y,I.z,I.f⟩,rfl,HB10.out.set_ 14 _,(HSP6.out.cf.fr hf9).fr hf12,HR9.out.fr hf12,HSP6.out.N⟩,
         (HUW.out.ofNo.trans HU10.out (fun j hj=>.inr (Nat.le_trans HUW.out.size hj))).Ke hu12⟩
end
theorem Jw {P:Program} {fn:Func} {R:Ending→World→Prop} {a:Act} {w:World} {p u:Tmp} {ty:TypeId} (h:fn.results= #[.cell p ty,.tmp u]) (g:Nat) (t:TypeId) (cs:Array Value) (d:TypeDesc)
  (hp:a.tmps.getD p undef=.pointer (some ⟨g,0,none⟩)) (hg:Blk w g t cs) (hu:P.underlying ty=some d) (hd:(match d with| .struct _| .array _ _=>true|_=>false)=true) (hi:(P.info? ty).map (·.size)=some cs.size)
  (hdf:a.defers=[]) (hR:R (.returned (.tuple #[.agg cs,a.tmps.getD u undef])) w):bodyPost P fn R .ret a w:=
 bodyPost_ret (by rw [results_cell_tmp h,hp];simp [asAddr,run_loadVar_row w g t ty cs _ d hg hu hd hi]) hdf hR
def StAnsR (N:Nat) (w:World) (X:Option (SAns×StL)) (s:StL) (e:Ending) (w':World):Prop:=
 ∃(V:Jb) (bb:Bool),e=.returned (.tuple #[.agg V.cells,.bool bb])∧Upd No w w'∧(X=none→bb=false)∧(∀An s',X=some (An,s')→bb=true∧V.Rd N w' An∧s'=s)
def StDoR (N:Nat) (w:World) (X:Option (SAns×StL)) (I:StK) (s:StL) (e:Ending) (w':World):Prop:=
 ∃(V:Jb) (bb:Bool) (I':StK) (s1:StL),e=.returned (.tuple #[.agg V.cells,.bool bb])∧I'.b=I.b∧Kb N w' I' s1∧Upd (fun k=>k=I.b) w w'∧(X=none→bb=false)∧(∀An s',X=some (An,s')→bb=true∧V.Rd N w' An∧s'=s1)
theorem Jb.Js (N:Nat) (w:World):Jb.nil.Rd N w SAns.none:=⟨rfl,rfl,Jg.nil none,SnV.Js N w⟩
section
variable {N:Nat} {w w':World} {S:Nat→Prop} {I:StK} {s:StL} {B:TlK} {u:TlL} {l:Nat} {g:LgL}
theorem Jh.subS {sl:SlV} {es:List Ent} (h:Jh N w sl es) {a b:Nat} (hab:a≤b) (hb:b≤sl.n):Jh N w ⟨if sl.c=a then sl.A else sl.A.map (fun x=>x.add (a*4)),b - a,sl.c - a⟩ ((es.take b).drop a):=
 (h.takeS hb).dropS hab
theorem spStRange (h:Kb N w I s) (hs:s.Sm) {a b:Nat} {lo hi:Int} (hlo:lo - s.first=(a:Int)) (hhi:hi - s.first=(b:Int)) (hab:a≤b) (hb:b≤s.L.length):
  Calls Tryz.prog 121 #[.pointer (some ⟨I.b,0,none⟩),.int .u64 lo,.int .u64 hi] w fun e w'=>∃t:SlV,e=.returned (.slice t.A t.n t.c)∧Jh N w' t ((s.L.take b).drop a)∧Upd No w w':=by
 have HF:=qq fun (n:Nat)=>spStFirst (h.drewN n) hs;have c14:w.cell? ⟨I.b,14,none⟩=some I.L.v:=h.c 14;have hle:=h.L.len;have hLl:=hs.len;have hbn:b≤I.L.n:=by omega
 have hbc:b≤I.L.c:=Nat.le_trans hbn h.L.cap;obtain ⟨X,hX⟩:∃X,(if I.L.c=a then I.L.A else Option.map (fun x=>x.add (a*4)) I.L.A)=X:=⟨_,rfl⟩;have HR:=qq (show Jh N w ⟨X,b - a,I.L.c - a⟩ ((s.L.take b).drop a) by rw [←hX];exact h.L.subS hab hbn);have j1:IntKind.u64.wrap (lo - s.first)=(a:Int):=by rw [hlo];simp [IntKind.wrap_u64];omega
 have j2:IntKind.u64.wrap (hi - s.first)=(b:Int):=by rw [hhi];simp [IntKind.wrap_u64];omega
 have habi:(a:Int)≤(b:Int):=by omega
 have hbci:(b:Int)≤(I.L.c:Int):=by omega
 clear h hs hlo hhi hle hLl hb;generalize s.first=f at*;go_enter Tryz.func121,Tryz.ntmps121;go_wp2_with fail
 go_quiet ((go_at_call 34;exact Jj (HF.out _)))
 go_wp2;go_ret;exact ⟨⟨X,b - a,I.L.c - a⟩,rfl,HR.out.fr (((Upd.refl No w).drewN _).fr0),(Upd.refl No w).drewN _⟩
theorem spStEntries (h:Kb N w I s) (hs:s.Sm) {v:Jd} (ha:v.a<18446744073709551616):
  Calls Tryz.prog 53 #[.pointer (some ⟨I.b,0,none⟩),.agg v.cells] w fun e w'=>StAnsR N w (s.entries v.a v.b) s e w':=by
 have hi0:=hs.i0;have hi1:=hs.i1;have hLl:=hs.len;have hls:s.last=s.atI+s.L.length:=rfl;have HNW:=qq (Nat.le_trans h.N (Nat.le_of_lt h.blk.lt));obtain ⟨wa,hwa⟩:∃W,(w.alloc (.cells v.cells 43)).alloc (.cells (Z69 0 0) 69)=W:=⟨_,rfl⟩;have HUA:=qq (show Upd No w wa by rw [←hwa];exact ((Upd.refl No w).alloc _).alloc _);have HPB:=qq (show Blk wa w.heap.size 43 v.cells by rw [←hwa];exact (Blk.new w _ _).alloc _);have HRB:=qq (show Blk wa (w.heap.size+1) 69 Jb.nil.cells by rw [←hwa];exact Blk.new_ (by simp));have HSA:=qq (h.no HUA.out);have HP:=qq fun (W:World) (hu:Upd No wa W)=>(show W.cell? ⟨w.heap.size,0,none⟩=some (.int .i64 v.kind)∧W.cell? ⟨w.heap.size,1,none⟩=some (.int .u64 v.a)∧W.cell? ⟨w.heap.size,2,none⟩=some (.int .u64 v.b) from ⟨(HPB.out.upd hu (fun h=>h)).cell 0,(HPB.out.upd hu (fun h=>h)).cell 1,(HPB.out.upd hu (fun h=>h)).cell 2⟩);have p0:=(HP.out wa (Upd.refl _ _)).1;have p1:=(HP.out wa (Upd.refl _ _)).2.1;have p2:=(HP.out wa (Upd.refl _ _)).2.2;have c13:wa.cell? ⟨I.b,13,none⟩=some (.int .u64 s.atI):=HSA.out.c 13;have HL:=qq fun (n:Nat)=>spStLast (HSA.out.drewN n) hs;have HSZ:=qq (show Jb.nil.cells.size=21 from rfl);have HF:=qq fun (W:World) (V:Jb) (bb:Bool) (w8 w9:World) (hu8:Upd No wa w8) (hb9:Blk w9 (w.heap.size+1) 69 V.cells) (hu9:Upd (fun k=>k=w.heap.size+1) w8 w9)=>(show Upd No w w9 from (HUA.out.no hu8).trans hu9 (by rintro j rfl;exact .inr (Nat.le_succ _)));by_cases h1:v.a≤s.atI
 ·have hd1:decide (v.a≤s.atI)=true:=decide_eq_true h1;have hX:s.entries v.a v.b=if v.a≤v.b then some ({SAns.none with err:=1},s) else none:=by unfold StL.entries;rw [if_pos h1]
  have HX:=qq hX;have HAI:=qq (show (Tryz.prog.info? 69).map (·.size)=some ((Z69 1 0):Array Value).size from inf69);have HAO:=qq (show ((Z69 1 0):Array Value).all (·.oneCell')=true by simp [Value.oneCell']);clear h hs hX h1 hls;go_enter Tryz.func53,Tryz.ntmps53;go_wp2_with fail
  go_quiet (fail)
  obtain ⟨w2,hw2⟩:∃W,W=wa.drewN nq:=⟨_,rfl⟩;have U2:=qq (show Upd No wa w2 by rw [hw2];exact (Upd.refl No wa).drewN nq);have HRB2:=qq (HRB.out.upd U2.out.drew (fun h=>h));rw [←hw2];clear hw2 p0 p1 p2 c13;have s2:w2.drew.cell? ⟨w.heap.size,1,none⟩=some (.int .u64 v.a)∧w2.drew.cell? ⟨w.heap.size,2,none⟩=some (.int .u64 v.b):=⟨(HP.out _ U2.out.drew).2.1,(HP.out _ U2.out.drew).2.2⟩;go_wp2_with fail
  refine wp_region_held_drew (S:=(fun W=>W.cell? ⟨w.heap.size,1,none⟩=some (.int .u64 v.a)∧W.cell? ⟨w.heap.size,2,none⟩=some (.int .u64 v.b))) (by kernel_rfl) (s2) (fun hHeld=>?_);refine td 0 14 rfl ?_ ?_ ?_;rotate_left 1
  ·intro w hS;go_simp;all_goals with_reducible rfl
  try simp only [NR]
  refine td 1 15 rfl ?_ ?_ ?_;rotate_left 1
  ·intro w hS;go_simp;all_goals with_reducible rfl
  try simp only [NR]
  refine td 2 16 rfl ?_ ?_ ?_;rotate_left 1
  ·intro w hS;go_simp;all_goals with_reducible rfl
  try simp only [NR]
  refine td 3 17 rfl ?_ ?_ ?_;rotate_left 1
  ·intro w hS;go_simp;all_goals with_reducible rfl
  try simp only [NR]
  refine td 4 18 rfl ?_ ?_ ?_;rotate_left 1
  ·intro w hS;go_simp;all_goals with_reducible rfl
  try simp only [NR]
  refine td 5 19 rfl ?_ ?_ ?_;rotate_left 1
  ·intro w hS;go_simp;all_goals with_reducible rfl
  try simp only [NR]
  refine wpAnyH_ready (rs:=[6]) (by kernel_rfl) (by simp) ?_;refine AllReadyH.cons (o:=⟨none,_,_,_,_,_⟩) rfl (fun K hK=>?_) AllReadyH.nil;with_reducible refine step_store_blk rfl 69 (.tmp 4) (.tmp 14) rfl (w.heap.size+1) (Z69 1 0) rfl rfl 69 Jb.nil.cells HRB2.out HAI.out rfl HAO.out ?_;intro w9 hb9 hu9;have HB9:=qq hb9;have HU9:=qq hu9;have s9:w9.cell? ⟨w.heap.size,1,none⟩=some (.int .u64 v.a)∧w9.cell? ⟨w.heap.size,2,none⟩=some (.int .u64 v.b):=⟨hu9.cell s2.1 (by omega),hu9.cell s2.2 (by omega)⟩;clear hb9 hu9;refine hK.out _ _ s9 (fun hHeld=>?_);clear hK;try simp only [NR]
  refine td 7 5 rfl ?_ ?_ ?_;rotate_left 1
  ·intro w hS;go_simp;all_goals with_reducible rfl
  try simp only [NR]
  refine wpAnyH_done (by kernel_rfl) ?_ _;go_wp2;refine Jw rfl (w.heap.size+1) 69 (Z69 1 0) _ rfl HB9.out Tryz.underlying69 rfl HAI.out rfl ?_;refine ⟨{Jb.nil with err:=1},decide (v.a≤v.b),by rfl,HF.out w9 {Jb.nil with err:=1} true w2.drew w9 U2.out.drew HB9.out HU9.out,fun he=>?_,fun An s' he=>?_⟩
  ·rw [HX.out] at he;by_cases h2:v.a≤v.b
   ·rw [if_pos h2] at he;cases he
   ·exact decide_eq_false h2
  ·rw [HX.out] at he;by_cases h2:v.a≤v.b
   ·rw [if_pos h2] at he;cases he;exact ⟨decide_eq_true h2,⟨rfl,rfl,Jg.nil none,SnV.Js _ _⟩,rfl⟩
   ·rw [if_neg h2] at he;cases he
 ·have hd1:decide (v.a≤s.atI)=false:=decide_eq_false h1;by_cases h2:s.last+1<v.b∨v.b≤v.a
  ·have hX:s.entries v.a v.b=none:=by unfold StL.entries;rw [if_neg h1,if_pos h2]
   have HX:=qq hX;have HLI:=qq (show (Tryz.prog.info? 69).map (·.size)=some ((Z69 0 0):Array Value).size from inf69);have HLO:=qq (show ((Z69 0 0):Array Value).all (·.oneCell')=true by simp [Value.oneCell']);have hx1:s.last+1<18446744073709551616:=by omega
   have hx0:0≤s.last+1:=by omega
   clear h hs hX h1 hls;generalize s.last=la at*;by_cases h3:la+1<v.b;focus
    have hd2:decide (la+1<v.b)=true:=decide_eq_true h3;clear h2 h3;go_enter Tryz.func53,Tryz.ntmps53;go_wp2_with fail
    go_quiet (fail)
    obtain ⟨w2,hw2⟩:∃W,W=wa.drewN nq:=⟨_,rfl⟩;have U2:=qq (show Upd No wa w2 by rw [hw2];exact (Upd.refl No wa).drewN nq);have HL2:=qq fun (n:Nat)=>(show Calls Tryz.prog 32 #[pp I.b] (w2.drewN n) fun e w'=>e=.returned (.int .u64 la)∧∃m,(w2.drewN n).drewN m=w' by rw [hw2,World.drewN_drewN];exact HL.out _);rw [←hw2];clear hw2 p0 p1 p2 c13 hwa;have p1:=(HP.out w2 U2.out).2.1;have p2:=(HP.out w2 U2.out).2.2;go_wp2_with fail
    go_quiet ((go_at_call 32;exact Ji (HL2.out _)))
    clear hd2
   rotate_left 1;focus
    have hd2:decide (la+1<v.b)=false:=decide_eq_false h3;have hd3:decide (v.b≤v.a)=true:=decide_eq_true (by rcases h2 with h|h;exact absurd h h3;exact h);clear h2 h3;go_enter Tryz.func53,Tryz.ntmps53;go_wp2_with fail
    go_quiet (fail)
    obtain ⟨w2,hw2⟩:∃W,W=wa.drewN nq:=⟨_,rfl⟩;have U2:=qq (show Upd No wa w2 by rw [hw2];exact (Upd.refl No wa).drewN nq);have HL2:=qq fun (n:Nat)=>(show Calls Tryz.prog 32 #[pp I.b] (w2.drewN n) fun e w'=>e=.returned (.int .u64 la)∧∃m,(w2.drewN n).drewN m=w' by rw [hw2,World.drewN_drewN];exact HL.out _);rw [←hw2];clear hw2 p0 p1 p2 c13 hwa;have p1:=(HP.out w2 U2.out).2.1;have p2:=(HP.out w2 U2.out).2.2;go_wp2_with fail
    go_quiet ((go_at_call 32;exact Ji (HL2.out _)))
    clear hd2 hd3
   all_goals
    have HRB2:=qq (HRB.out.upd (U2.out.drewN nq) (fun h=>h))
    go_wp2_with (first
     |(with_reducible refine Jk rfl 69 (.tmp 4) (.tmp 33) rfl (w.heap.size+1) (Z69 0 0) rfl rfl 69 Jb.nil.cells HRB2.out HLI.out rfl HLO.out ?_
       intro w9 hb9 hu9;have HB9:=qq hb9;have HU9:=qq hu9
       clear hb9 hu9)
     |fail)
    refine Jw rfl (w.heap.size+1) 69 (Z69 0 0) _ rfl HB9.out Tryz.underlying69 rfl HLI.out rfl ?_;exact ⟨Jb.nil,false,rfl,HF.out w9 Jb.nil true _ w9 (U2.out.drewN _) HB9.out HU9.out,fun _=>rfl,fun An s' he=>by rw [HX.out] at he;cases he⟩
  ·obtain ⟨a,ha'⟩:=Int.eq_ofNat_of_zero_le (show 0≤v.a - s.first by unfold StL.first;omega);obtain ⟨b,hb'⟩:=Int.eq_ofNat_of_zero_le (show 0≤v.b - s.first by unfold StL.first;omega);have hX:s.entries v.a v.b=some ({SAns.none with es:=(s.L.take b).drop a},s):=by unfold StL.entries;rw [if_neg h1,if_neg h2,ha',hb',Int.toNat_natCast,Int.toNat_natCast]
   have HX:=qq hX;have HRG:=qq fun (W:World) (hu:Upd No wa W)=>spStRange (HSA.out.no hu) hs ha' hb' (by omega) (by unfold StL.first at hb';omega);have HG:=qq fun (t:SlV)=>(show (Tryz.prog.info? 69).map (·.size)=some (#[.int .i64 0,.int .u64 0,t.v,.string ⟨#[]⟩,.int .u64 0,.int .u64 0,.slice none 0 0,.slice none 0 0,.slice none 0 0,.slice none 0 0,.bool false,.int .u64 0,.int .u64 0,.int .u64 0,.bool false,.slice none 0 0,.slice none 0 0,.slice none 0 0,.slice none 0 0,.bool false,.bool false]:Array Value).size from inf69);have HGO:=qq fun (t:SlV)=>(show (#[.int .i64 0,.int .u64 0,t.v,.string ⟨#[]⟩,.int .u64 0,.int .u64 0,.slice none 0 0,.slice none 0 0,.slice none 0 0,.slice none 0 0,.bool false,.int .u64 0,.int .u64 0,.int .u64 0,.bool false,.slice none 0 0,.slice none 0 0,.slice none 0 0,.slice none 0 0,.bool false,.bool false]:Array Value).all (·.oneCell')=true by simp [Value.oneCell']);have hd2:decide (s.last+1<v.b)=false:=decide_eq_false (fun h=>h2 (.inl h));have hd3:decide (v.b≤v.a)=false:=decide_eq_false (fun h=>h2 (.inr h));have hx1:s.last+1<18446744073709551616:=by omega
   have hx0:0≤s.last+1:=by omega
   clear h hs hX h1 hls h2 ha' hb';generalize s.last=la at*;go_enter Tryz.func53,Tryz.ntmps53;go_wp2_with fail
   go_quiet (fail)
   obtain ⟨w2,hw2⟩:∃W,W=wa.drewN nq:=⟨_,rfl⟩;have U2:=qq (show Upd No wa w2 by rw [hw2];exact (Upd.refl No wa).drewN nq);have HL2:=qq fun (n:Nat)=>(show Calls Tryz.prog 32 #[pp I.b] (w2.drewN n) fun e w'=>e=.returned (.int .u64 la)∧∃m,(w2.drewN n).drewN m=w' by rw [hw2,World.drewN_drewN];exact HL.out _);rw [←hw2];clear hw2 p0 p1 p2 c13 hwa;have p1:=(HP.out w2 U2.out).2.1;have p2:=(HP.out w2 U2.out).2.2;go_wp2_with fail
   go_quiet ((go_at_call 32;exact Ji (HL2.out _)))
   clear hd2 hd3;go_wp2_with fail
   refine (HRG.out _ (U2.out.drewN nq)).mono ?_;rintro r w3 ⟨t,rfl,ht,U3⟩;have HRB2:=qq (HRB.out.upd ((U2.out.drewN nq).no U3) (fun h=>h));have HT:=qq ht;have HU3:=qq ((U2.out.drewN nq).no U3);clear ht U3 p1 p2
   go_wp2_with (first
    |(with_reducible refine Jk rfl 69 (.tmp 4) (.tmp 40) rfl (w.heap.size+1) #[.int .i64 0,.int .u64 0,t.v,.string ⟨#[]⟩,.int .u64 0,.int .u64 0,.slice none 0 0,.slice none 0 0,.slice none 0 0,.slice none 0 0,.bool false,.int .u64 0,.int .u64 0,.int .u64 0,.bool false,.slice none 0 0,.slice none 0 0,.slice none 0 0,.slice none 0 0,.bool false,.bool false] rfl rfl 69 Jb.nil.cells HRB2.out (HG.out t) rfl (HGO.out t) ?_
      intro w9 hb9 hu9;have HB9:=qq hb9;have HU9:=qq hu9
      clear hb9 hu9)
    |fail)
   refine Jw rfl (w.heap.size+1) 69 #[.int .i64 0,.int .u64 0,t.v,.string ⟨#[]⟩,.int .u64 0,.int .u64 0,.slice none 0 0,.slice none 0 0,.slice none 0 0,.slice none 0 0,.bool false,.int .u64 0,.int .u64 0,.int .u64 0,.bool false,.slice none 0 0,.slice none 0 0,.slice none 0 0,.slice none 0 0,.bool false,.bool false] _ rfl HB9.out Tryz.underlying69 rfl (HG.out t) rfl ?_;have hf9:=HU9.out.fr (N:=N) (by rintro k rfl;exact HRB2.out.mutb (by have:=HNW.out;omega) rfl)
   exact ⟨{Jb.nil with es:=t},true,rfl,HF.out w9 {Jb.nil with es:=t} true _ w9 HU3.out HB9.out HU9.out,fun he=>(by rw [HX.out] at he;cases he),fun An s' he=>by
    rw [HX.out] at he;cases he
    exact ⟨rfl,⟨rfl,rfl,HT.out.fr hf9,SnV.Js _ _⟩,rfl⟩⟩
end
end Go.Proofs.YtmagnkjodjmojaaGreat
