/- A part of the proof of FnLog: laws and walks, with their conditions written at each. -/
import Derived.Test.YtmagnkjodjmojaaGreatQ10
import Derived.Test.YtmagnkjodjmojaaGreatQ24
import Derived.Test.YtmagnkjodjmojaaGreatQ27
import Derived.Test.YtmagnkjodjmojaaGreatQ29
set_option maxRecDepth 20000
set_option maxHeartbeats 4000000
set_option linter.all false
namespace Go.Proofs.YtmagnkjodjmojaaGreat
open Go.RowKit
def MayR (N:Nat) (w:World) (l:Nat) (A:StK) (B:TlK) (ab:Nat) (X:Option (LAns×LgL)) (e:Ending) (w':World):Prop:=
 ∃(V:Ja) (bb:Bool) (A':StK) (B':TlK) (g':LgL),e=.returned (.bool bb)∧A'.b=A.b∧B'.b=B.b∧Ka N w' l A' B' g'∧Blk w' ab 48 V.cells∧Upd (fun k=>spS l A B k∨k=ab) w w'∧(X=none→bb=false)∧(∀An g1,X=some (An,g1)→bb=true∧V.Rd N w' An∧g'=g1)
theorem rowB_bds {es:List Ent} (hu:AllU es) (hr:rowB es=true):∀e∈es,0≤e.index∧e.index<4611686018427387904:=by
 intro e he;obtain ⟨j,hj,rfl⟩:=List.getElem_of_mem he;have h1:=hu j hj;have h2:=(row_at hr j hj).2.2.1;rw [List.getD_eq_getElem?_getD,List.getElem?_eq_getElem hj] at h1 h2;exact ⟨h1.i0,h2⟩
section
variable {N:Nat} {w w' w0:World} {S:Nat→Prop} {A A':StK} {s:StL} {B B':TlK} {u:TlL} {l p ab:Nat} {g g':LgL}
theorem Ka.nab (h:Ka N w l A B g) {cs:Array Value} (hb:Blk w ab 48 cs):¬spS l A B ab:=by
 rintro (e|e|e)
 ·exact h.blk.ne_ hb (by decide) e.symm
 ·exact h.st.blk.ne_ hb (by decide) e.symm
 ·exact h.tl.blk.ne_ hb (by decide) e.symm
theorem Ka.at_ab (h:Ka N w l A B g) {cs:Array Value} (hb:Blk w ab 48 cs) (hN:N≤ab) (hu:Upd (fun k=>k=ab) w w'):Ka N w' l A B g:=by
 have hf:=hu.fr (N:=N) (by rintro k rfl;exact hb.mutb hN rfl);exact h.upd hu hf fun k hk e=>h.nab hb (e ▸hk)
theorem mayFin {X:Option (LAns×LgL)} {wN:World} {bb:Bool} {V:Ja} (h1:Upd (fun k=>spS l A B k∨k=ab) w wN) (hA:A'.b=A.b) (hB:B'.b=B.b) (hS:Ka N wN l A' B' g') (hb:Blk wN ab 48 V.cells) (h2:X=none→bb=false) (h3:∀An g1,X=some (An,g1)→bb=true∧V.Rd N wN An∧g'=g1):
  MayR N w l A B ab X (.returned (.bool bb)) wN:=⟨V,bb,A',B',g',rfl,hA,hB,hS,hb,h1,h2,h3⟩
set_option maxHeartbeats 8000000 in
theorem spMaybe (h:Ka N w l A B g) (hp:g.Pre) (ho:g.Ok) (hln:g.u.es.length+60≤20000) {v:Jc} {c:LCall} (hv:v.Rd N w c) (hc:c.Ok) (hb:Blk w ab 48 Ja.nil.cells) (hN:N≤ab):
  Calls Tryz.prog 23 #[.pointer (some ⟨l,0,none⟩),.agg v.cells,.pointer (some ⟨ab,0,none⟩)] w fun e w'=>MayR N w l A B ab (g.maybe c) e w':=by
 have hs:=hp.isSm;have ha:=hv.a;have hbb:=hv.b;have hpT:=hv.pT;have hpI:=hv.pI;have hel:=hv.es.len;have hlen:=hc.len;have hes:v.es.n≤60:=by omega
 obtain ⟨wa,hwa⟩:∃W,w.alloc (.cells v.cells 45)=W:=⟨_,rfl⟩;have HUA:=qq (show Upd No w wa by rw [←hwa];exact (Upd.refl No w).alloc _);have HPB:=qq (show Blk wa w.heap.size 45 v.cells by rw [←hwa];exact Blk.new w _ _);have HSA:=qq (h.no HUA.out);have HAB:=qq (hb.upd HUA.out (fun h=>h));have HEA:=qq (hv.es.fr HUA.out.fr0)
 have HP:=qq fun (W:World) (hu:Upd No wa W)=>(show W.cell? ⟨w.heap.size,1,none⟩=some (.int .u64 c.a)∧W.cell? ⟨w.heap.size,2,none⟩=some (.int .u64 c.b)∧W.cell? ⟨w.heap.size,7,none⟩=some (.int .u64 c.pT)∧W.cell? ⟨w.heap.size,8,none⟩=some (.int .u64 c.pI)∧W.cell? ⟨w.heap.size,9,none⟩=some v.es.v from
  ⟨ha ▸(HPB.out.upd hu (fun h=>h)).cell 1,hbb ▸(HPB.out.upd hu (fun h=>h)).cell 2,hpT ▸(HPB.out.upd hu (fun h=>h)).cell 7,hpI ▸(HPB.out.upd hu (fun h=>h)).cell 8,(HPB.out.upd hu (fun h=>h)).cell 9⟩)
 obtain ⟨p1,p2,p7,p8,p9⟩:=HP.out wa (Upd.refl _ _);have hpb:=HPB.out.ne_ HSA.out.blk (by decide);have HRW:=qq fun (W:World) (hu:Upd No wa W)=>(spRow (HEA.out.fr hu.fr0) hc.es (by omega)).toU;have HVL:=qq fun (W:World) (hu:Upd No wa W)=>spValid (a:=c.a) (t:=c.pT) (HEA.out.fr hu.fr0) hc.es (by omega) hc.pi0 hc.pi1;have HMT:=qq fun (W:World) (hu:Upd No wa W)=>spMatch (t:=c.pT) (HSA.out.no hu) hs hc.pi0 hc.pi1;have HCF:=qq fun (W:World) (hu:Upd No wa W)=>spConflict (HSA.out.no hu) hs (HEA.out.fr hu.fr0) hc.es (by omega);have HUN:=qq fun (W:World) (hu:Upd No wa W)=>(show Upd (fun k=>spS l A B k∨k=ab) w W from (HUA.out.no hu).ofNo);have hpi0:=hc.pi0;have hpi1:=hc.pi1;have HNB:=qq hN;rcases hrow:rowB c.es with _|_
 ·have hX:g.maybe c=none:=by unfold LgL.maybe;rw [if_pos (.inl hrow)]
  have HX:=qq hX;rw [hrow] at HRW;clear h hp ho hv hc hb hX hrow ha hbb hpT hpI hel;go_enter Tryz.func23,Tryz.ntmps23;go_wp2_with fail
  refine (HRW.out wa (Upd.refl _ _)).mono ?_;rintro r w1 ⟨rfl,u1⟩;have U1:=qq u1;clear u1;go_wp2;go_ret;exact mayFin (V:=Ja.nil) (HUN.out _ U1.out) rfl rfl (HSA.out.no U1.out) (HAB.out.upd U1.out (fun h=>h)) (fun _=>rfl) fun An g1 he=>by rw [HX.out] at he;cases he
 ·rw [hrow] at HRW;by_cases hbad:validX c.a c.pT c.pI c.es=false∨farI≤c.pI
  ·have hX:g.maybe c=none:=by
    unfold LgL.maybe;rw [if_pos];by_cases hf:farI≤c.pI
    ·exact .inr (.inr hf)
    ·refine .inr (.inl ?_);rw [←validX_eq hpi0 (by unfold farI at hf;omega) (rowB_bds hc.es hrow)];rcases hbad with h|h
     ·exact h
     ·exact absurd h hf
   have HX:=qq hX;rcases hvx:validX c.a c.pT c.pI c.es with _|_
   ·rw [hvx] at HVL;clear h hp ho hv hc hb hX hrow ha hbb hpT hpI hel hbad hvx;go_enter Tryz.func23,Tryz.ntmps23;go_wp2_with fail
    refine (HRW.out wa (Upd.refl _ _)).mono ?_;rintro r w1 ⟨rfl,u1⟩;have U1:=qq u1;clear u1 p1 p2 p7 p8 p9;obtain ⟨p1,p2,p7,p8,p9⟩:=HP.out w1 U1.out;go_wp2_with fail
    refine (HVL.out w1 U1.out).mono ?_;rintro r w2 ⟨rfl,u2⟩;have U2:=qq (U1.out.no u2);clear u2;go_wp2;go_ret;exact mayFin (V:=Ja.nil) (HUN.out _ U2.out) rfl rfl (HSA.out.no U2.out) (HAB.out.upd U2.out (fun h=>h)) (fun _=>rfl) fun An g1 he=>by rw [HX.out] at he;cases he
   ·rw [hvx] at HVL;have hf:4611686018427387904≤c.pI:=by rcases hbad with h|h;rw [hvx] at h;cases h;exact h
    clear h hp ho hv hc hb hX hrow ha hbb hpT hpI hel hbad hvx;go_enter Tryz.func23,Tryz.ntmps23;go_wp2_with fail
    refine (HRW.out wa (Upd.refl _ _)).mono ?_;rintro r w1 ⟨rfl,u1⟩;have U1:=qq u1;clear u1 p1 p2 p7 p8 p9;obtain ⟨p1,p2,p7,p8,p9⟩:=HP.out w1 U1.out;go_wp2_with fail
    refine (HVL.out w1 U1.out).mono ?_;rintro r w2 ⟨rfl,u2⟩;have U2:=qq (U1.out.no u2);clear u2 p1 p2 p7 p8 p9;obtain ⟨p1,p2,p7,p8,p9⟩:=HP.out w2 U2.out;go_wp2;go_ret;exact mayFin (V:=Ja.nil) (HUN.out _ U2.out) rfl rfl (HSA.out.no U2.out) (HAB.out.upd U2.out (fun h=>h)) (fun _=>rfl) fun An g1 he=>by rw [HX.out] at he;cases he
  ·have hvx:validX c.a c.pT c.pI c.es=true:=by rcases h:validX c.a c.pT c.pI c.es with _|_;exact absurd (.inl h) hbad;rfl
   have hf:¬4611686018427387904≤c.pI:=fun h=>hbad (.inr h);have hvb:LgL.validB c.a c.pT c.pI c.es=true:=by rw [←validX_eq hpi0 (by omega) (rowB_bds hc.es hrow)];exact hvx
   have hnn:¬(rowB c.es=false∨LgL.validB c.a c.pT c.pI c.es=false∨farI≤c.pI):=by
    rintro (h|h|h)
    ·rw [hrow] at h;cases h
    ·rw [hvb] at h;cases h
    ·exact hf h
   rw [hvx] at HVL;rw [LgL.matchX_eq (by omega)] at HMT;rw [LgL.conflictX_eq (rowB_idx hrow)] at HCF;have HK2:=qq fun (W:World) (hu:Upd No wa W)=>(show W.cell? ⟨l,2,none⟩=some (.int .u64 g.com) from (HSA.out.no hu).c 2);rcases hm:g.matches c.pT c.pI with _|_
   ·have hX:g.maybe c=some (LAns.none,g):=by unfold LgL.maybe;rw [if_neg hnn,if_pos hm]
    have HX:=qq hX;rw [hm] at HMT;clear h hp ho hv hc hb hX hrow ha hbb hpT hpI hel hbad hvx hvb hnn hm;go_enter Tryz.func23,Tryz.ntmps23;go_wp2_with fail
    refine (HRW.out wa (Upd.refl _ _)).mono ?_;rintro r w1 ⟨rfl,u1⟩;have U1:=qq u1;clear u1 p1 p2 p7 p8 p9;obtain ⟨p1,p2,p7,p8,p9⟩:=HP.out w1 U1.out;go_wp2_with fail
    refine (HVL.out w1 U1.out).mono ?_;rintro r w2 ⟨rfl,u2⟩;have U2:=qq (U1.out.no u2);clear u2 p1 p2 p7 p8 p9;obtain ⟨p1,p2,p7,p8,p9⟩:=HP.out w2 U2.out;go_wp2_with fail
    refine (HMT.out w2 U2.out).mono ?_;rintro r w3 ⟨rfl,u3⟩;have U3:=qq (U2.out.no u3);clear u3;go_wp2;go_ret;exact mayFin (V:=Ja.nil) (HUN.out _ U3.out) rfl rfl (HSA.out.no U3.out) (HAB.out.upd U3.out (fun h=>h)) (fun he=>by rw [HX.out] at he;cases he) fun An g1 he=>by
     rw [HX.out] at he;cases he;exact ⟨rfl,Ja.Js _ _,rfl⟩
   ·rw [hm] at HMT;have hnm:¬g.matches c.pT c.pI=false:=by rw [hm];decide
    by_cases hcf:0<g.conflict c.es
    ·obtain ⟨j,hj,hcj⟩:∃j,j<c.es.length∧g.conflict c.es=c.pI+1+(j:Int):=by
      rcases g.conflict_at c.es with h0|⟨j,hj,hcj⟩
      ·omega
      ·unfold LgL.validB at hvb;rw [decide_eq_true_eq] at hvb;exact ⟨j,hj,by rw [hcj,(hvb.1 j hj).1]⟩
     rw [hcj] at HCF hcf;by_cases hcm:c.pI+1+(j:Int)≤g.com
     ·have hX:g.maybe c=none:=by unfold LgL.maybe;rw [if_neg hnn,if_neg hnm,hcj,if_pos hcf,if_pos hcm]
      have HX:=qq hX;have hd:decide (c.pI+1+(j:Int)≤g.com)=true:=decide_eq_true hcm;have hj0:(0:Int)<c.pI+1+(j:Int):=hcf;have hcm':c.pI+1+(j:Int)≤g.com:=hcm;clear h hp ho hv hc hb hX hrow ha hbb hpT hpI hel hbad hvx hvb hnn hm hnm hcm hcj hcf;generalize c.pI+1+(j:Int)=n at*;go_enter Tryz.func23,Tryz.ntmps23;go_wp2_with fail
      refine (HRW.out wa (Upd.refl _ _)).mono ?_;rintro r w1 ⟨rfl,u1⟩;have U1:=qq u1;clear u1 p1 p2 p7 p8 p9;obtain ⟨p1,p2,p7,p8,p9⟩:=HP.out w1 U1.out;go_wp2_with fail
      refine (HVL.out w1 U1.out).mono ?_;rintro r w2 ⟨rfl,u2⟩;have U2:=qq (U1.out.no u2);clear u2 p1 p2 p7 p8 p9;obtain ⟨p1,p2,p7,p8,p9⟩:=HP.out w2 U2.out;go_wp2_with fail
      refine (HMT.out w2 U2.out).mono ?_;rintro r w3 ⟨rfl,u3⟩;have U3:=qq (U2.out.no u3);clear u3 p1 p2 p7 p8 p9;obtain ⟨p1,p2,p7,p8,p9⟩:=HP.out w3 U3.out;go_wp2_with fail
      refine (HCF.out w3 U3.out).mono ?_;rintro r w4 ⟨rfl,u4⟩;have U4:=qq (U3.out.no u4);clear u4 p1 p2 p7 p8 p9;obtain ⟨p1,p2,p7,p8,p9⟩:=HP.out w4 U4.out;have k2:=HK2.out w4 U4.out;go_wp2;go_ret;exact mayFin (V:=Ja.nil) (HUN.out _ U4.out) rfl rfl (HSA.out.no U4.out) (HAB.out.upd U4.out (fun h=>h)) (fun _=>rfl) fun An g1 he=>by rw [HX.out] at he;cases he
     ·have hX:g.maybe c=(g.append (c.es.drop j)).bind fun g'=>(g'.commit? (min c.b (c.pI+c.es.length))).map fun g''=>({LAns.none with n:=c.pI+c.es.length,flag:=true},g''):=by
       unfold LgL.maybe;rw [if_neg hnn,if_neg hnm,hcj,if_pos hcf,if_neg hcm,show (c.pI+1+(j:Int) - c.pI - 1).toNat=j by omega]
      have HX:=qq hX;have hd:decide (c.pI+1+(j:Int)≤g.com)=false:=decide_eq_false hcm;have hj0:(0:Int)<c.pI+1+(j:Int):=hcf;have hjn:j≤v.es.n:=by omega
      obtain ⟨X,hXt⟩:∃X,(if v.es.c=j then v.es.A else Option.map (fun x=>x.add (j*4)) v.es.A)=X:=⟨_,rfl⟩
      have HAP:=qq fun (W:World) (hu:Upd No wa W)=>(show Calls Tryz.prog 21 #[pp l,.slice X (v.es.n - j) (v.es.c - j)] W fun e w'=>e=.returned (.bool (g.append (c.es.drop j)).isSome)∧(∃B',B'.b=B.b∧Ka N w' l A B' ((g.append (c.es.drop j)).getD g))∧Upd (spS l A B) W w' from by
       have h9:=spLgAppend (HSA.out.no hu) hs ((HEA.out.fr hu.fr0).dropS hjn) (hc.es.drop j) (by simp;omega);rw [hXt] at h9
       exact h9)
      have hjc:j≤v.es.c:=Nat.le_trans hjn hv.es.cap;have HGP:=qq fun (g1:LgL) (hg:g.append (c.es.drop j)=some g1)=>(LgL.append_pre hg hp (hc.es.drop j) (by simp;omega) hln).1;have hn62:c.pI+1+(j:Int)<18446744073709551616:=by omega
      have hd':¬c.pI+1+(j:Int)≤g.com:=hcm;obtain ⟨n,hn⟩:∃n,n=c.pI+1+(j:Int):=⟨_,rfl⟩;have jn:n - c.pI - 1=(j:Int):=by omega
      have jb0:0≤n - c.pI:=by omega
      have jb1:n - c.pI<18446744073709551616:=by omega
      have jb2:0≤n - c.pI - 1:=by omega
      rw [←hn] at HCF hd hj0 hn62 hd';rw [hel] at HX;rcases hap:g.append (c.es.drop j) with _|g1
      ·rw [hap] at HAP HX;simp only [Option.isSome_none,Option.getD_none,Option.bind_none] at HAP HX;clear h hp ho hv hc hb hX hrow ha hbb hpT hpI hel hbad hvx hvb hnn hm hnm hcm hcj hcf hn hap;go_enter Tryz.func23,Tryz.ntmps23;go_wp2_with fail
       refine (HRW.out wa (Upd.refl _ _)).mono ?_;rintro r w1 ⟨rfl,u1⟩;have U1:=qq u1;clear u1 p1 p2 p7 p8 p9;obtain ⟨p1,p2,p7,p8,p9⟩:=HP.out w1 U1.out;go_wp2_with fail
       refine (HVL.out w1 U1.out).mono ?_;rintro r w2 ⟨rfl,u2⟩;have U2:=qq (U1.out.no u2);clear u2 p1 p2 p7 p8 p9;obtain ⟨p1,p2,p7,p8,p9⟩:=HP.out w2 U2.out;go_wp2_with fail
       refine (HMT.out w2 U2.out).mono ?_;rintro r w3 ⟨rfl,u3⟩;have U3:=qq (U2.out.no u3);clear u3 p1 p2 p7 p8 p9;obtain ⟨p1,p2,p7,p8,p9⟩:=HP.out w3 U3.out;go_wp2_with fail
       refine (HCF.out w3 U3.out).mono ?_;rintro r w4 ⟨rfl,u4⟩;have U4:=qq (U3.out.no u4);clear u4 p1 p2 p7 p8 p9;obtain ⟨p1,p2,p7,p8,p9⟩:=HP.out w4 U4.out;have k2:=HK2.out w4 U4.out;go_wp2_with fail
       refine (HAP.out w4 U4.out).mono ?_;rintro r w5 ⟨rfl,⟨B5,hB5,hS5⟩,u5⟩;have HS5:=qq hS5;have HB5:=qq hB5;have HAB5:=qq ((HAB.out.upd U4.out (fun h=>h)).upd u5 ((HSA.out.no U4.out).nab (HAB.out.upd U4.out (fun h=>h))));have HU5:=qq ((HUN.out _ U4.out).Ke (u5.mono fun k hk=>.inl hk));clear hS5 u5 hB5;go_wp2;go_ret;exact mayFin (V:=Ja.nil) HU5.out rfl HB5.out HS5.out HAB5.out (fun _=>rfl) fun An g1 he=>by rw [HX.out] at he;cases he
      ·rw [hap] at HAP HX;simp only [Option.isSome_some,Option.getD_some,Option.bind_some] at HAP HX;have HSM5:=qq ((HGP.out g1 hap).isSm);have HBB:=qq hbb;clear h hp ho hv hc hb hX hrow ha hbb hpT hpI hel hbad hvx hvb hnn hm hnm hcm hcj hcf hn hap;go_enter Tryz.func23,Tryz.ntmps23;go_wp2_with fail
       refine (HRW.out wa (Upd.refl _ _)).mono ?_;rintro r w1 ⟨rfl,u1⟩;have U1:=qq u1;clear u1 p1 p2 p7 p8 p9;obtain ⟨p1,p2,p7,p8,p9⟩:=HP.out w1 U1.out;go_wp2_with fail
       refine (HVL.out w1 U1.out).mono ?_;rintro r w2 ⟨rfl,u2⟩;have U2:=qq (U1.out.no u2);clear u2 p1 p2 p7 p8 p9;obtain ⟨p1,p2,p7,p8,p9⟩:=HP.out w2 U2.out;go_wp2_with fail
       refine (HMT.out w2 U2.out).mono ?_;rintro r w3 ⟨rfl,u3⟩;have U3:=qq (U2.out.no u3);clear u3 p1 p2 p7 p8 p9;obtain ⟨p1,p2,p7,p8,p9⟩:=HP.out w3 U3.out;go_wp2_with fail
       refine (HCF.out w3 U3.out).mono ?_;rintro r w4 ⟨rfl,u4⟩;have U4:=qq (U3.out.no u4);clear u4 p1 p2 p7 p8 p9;obtain ⟨p1,p2,p7,p8,p9⟩:=HP.out w4 U4.out;have k2:=HK2.out w4 U4.out;go_wp2_with fail
       refine (HAP.out w4 U4.out).mono ?_;rintro r w5 ⟨rfl,⟨B5,hB5,hS5⟩,u5⟩;have HS5:=qq hS5;have HB5:=qq hB5;have HAB5:=qq ((HAB.out.upd U4.out (fun h=>h)).upd u5 ((HSA.out.no U4.out).nab (HAB.out.upd U4.out (fun h=>h))))
       have HPB5:=qq ((HPB.out.upd U4.out (fun h=>h)).upd u5 (by
        have h4:=HPB.out.upd U4.out (fun h=>h);have s4:=HSA.out.no U4.out;rintro (e|e|e)
        ·exact s4.blk.ne_ h4 (by decide) e.symm
        ·exact s4.st.blk.ne_ h4 (by decide) e.symm
        ·exact s4.tl.blk.ne_ h4 (by decide) e.symm))
       have HU5:=qq ((HUN.out _ U4.out).Ke (u5.mono fun k hk=>.inl hk));clear hS5 u5 hB5 p1 p2 p7 p8 p9 k2;have HM:=qq (show ∀W,Ka N W l A B5 g1→Calls Tryz.prog 24 #[pp l,.int .u64 (min c.b (c.pI+(v.es.n:Int)))] W fun e w'=>e=.returned (.bool (g1.commit? (min c.b (c.pI+(v.es.n:Int)))).isSome)∧Ka N w' l A B5 ((g1.commit? (min c.b (c.pI+(v.es.n:Int)))).getD g1)∧Upd (spS l A B5) W w' from fun W h=>spCommit h HSM5.out);have a1:w5.cell? ⟨ab,1,none⟩=some (.int .u64 0):=HAB5.out.cell 1;have a3:w5.cell? ⟨ab,3,none⟩=some (.bool false):=HAB5.out.cell 3;have ya:=HAB5.out.frozen;have hpa:w.heap.size≠ab:=HPB5.out.ne_ HAB5.out (by decide);have q2:w5.cell? ⟨w.heap.size,2,none⟩=some (.int .u64 c.b):=HBB.out ▸HPB5.out.cell 2;have HU6:=qq (show Upd (fun k=>k=ab) w5 ((w5.setCell ⟨ab,1,none⟩ (.int .u64 (c.pI+(v.es.n:Int)))).setCell ⟨ab,3,none⟩ (.bool true)) from ((Upd.refl (fun k=>k=ab) w5).setIn rfl 1 _).setIn rfl 3 _);have HB6:=qq (show Blk ((w5.setCell ⟨ab,1,none⟩ (.int .u64 (c.pI+(v.es.n:Int)))).setCell ⟨ab,3,none⟩ (.bool true)) ab 48 ({Ja.nil with n:=c.pI+(v.es.n:Int),flag:=true}:Ja).cells from (HAB5.out.set_ 1 _).set_ 3 _);have HS6:=qq (HS5.out.at_ab HAB5.out HNB.out HU6.out);go_wp2_with fail
       refine (HM.out _ HS6.out).mono ?_;rintro r w7 ⟨rfl,hs7,hu7⟩;have HS7:=qq hs7;have HU7:=qq hu7;clear hs7 hu7;go_wp2;go_ret;have hB7:=HB6.out.upd HU7.out (HS6.out.nab HB6.out);have hbb5:=HB5.out;refine mayFin (V:={Ja.nil with n:=c.pI+(v.es.n:Int),flag:=true}) ?_ rfl hbb5 HS7.out hB7 (fun he=>?_) fun An g2 he=>?_
       ·refine (HU5.out.Ke (HU6.out.mono fun k hk=>.inr hk)).Ke (HU7.out.mono fun k hk=>.inl ?_);rcases hk with e|e|e
        ·exact .inl e
        ·exact .inr (.inl e)
        ·exact .inr (.inr (e.trans hbb5))
       ·rw [HX.out] at he;cases hz:g1.commit? (min c.b (c.pI+(v.es.n:Int))) with
        |none=>rfl
        |some g3=>rw [hz] at he;cases he
       ·rw [HX.out] at he;cases hz:g1.commit? (min c.b (c.pI+(v.es.n:Int))) with
        |none=>rw [hz] at he;cases he
        |some g3=>rw [hz] at he;cases he;exact ⟨rfl,⟨rfl,rfl,rfl,rfl,rfl,rfl,Jg.nil none,SnV.Js _ _⟩,rfl⟩
    ·have hX:g.maybe c=(g.commit? (min c.b (c.pI+c.es.length))).map fun g''=>({LAns.none with n:=c.pI+c.es.length,flag:=true},g''):=by
      unfold LgL.maybe;rw [if_neg hnn,if_neg hnm,if_neg hcf]
     have HX:=qq hX;rw [hel] at HX;have h0:g.conflict c.es=0:=by
      rcases g.conflict_at c.es with h0|⟨j,hj,hcj⟩
      ·exact h0
      ·have:=(hc.es j hj).i0;omega
     rw [h0] at HCF;have HBB:=qq hbb;have HSM5:=qq hs;clear h hp ho hv hc hb hX hrow ha hbb hpT hpI hel hbad hvx hvb hnn hm hnm hcf h0;go_enter Tryz.func23,Tryz.ntmps23;go_wp2_with fail
     refine (HRW.out wa (Upd.refl _ _)).mono ?_;rintro r w1 ⟨rfl,u1⟩;have U1:=qq u1;clear u1 p1 p2 p7 p8 p9;obtain ⟨p1,p2,p7,p8,p9⟩:=HP.out w1 U1.out;go_wp2_with fail
     refine (HVL.out w1 U1.out).mono ?_;rintro r w2 ⟨rfl,u2⟩;have U2:=qq (U1.out.no u2);clear u2 p1 p2 p7 p8 p9;obtain ⟨p1,p2,p7,p8,p9⟩:=HP.out w2 U2.out;go_wp2_with fail
     refine (HMT.out w2 U2.out).mono ?_;rintro r w3 ⟨rfl,u3⟩;have U3:=qq (U2.out.no u3);clear u3 p1 p2 p7 p8 p9;obtain ⟨p1,p2,p7,p8,p9⟩:=HP.out w3 U3.out;go_wp2_with fail
     refine (HCF.out w3 U3.out).mono ?_;rintro r w4 ⟨rfl,u4⟩;have U4:=qq (U3.out.no u4);clear u4 p1 p2 p7 p8 p9;obtain ⟨p1,p2,p7,p8,p9⟩:=HP.out w4 U4.out;have k2:=HK2.out w4 U4.out;obtain ⟨w5,hw5⟩:∃W,W=w4:=⟨_,rfl⟩;obtain ⟨g1,hg1⟩:∃X,X=g:=⟨_,rfl⟩;obtain ⟨B5,hB5⟩:∃X,X=B:=⟨_,rfl⟩;have HS5:=qq (show Ka N w5 l A B5 g1 by rw [hw5,hg1,hB5];exact HSA.out.no U4.out);have HB5:=qq (show B5.b=B.b by rw [hB5]);have HAB5:=qq (show Blk w5 ab 48 Ja.nil.cells by rw [hw5];exact HAB.out.upd U4.out (fun h=>h));have HPB5:=qq (show Blk w5 w.heap.size 45 v.cells by rw [hw5];exact HPB.out.upd U4.out (fun h=>h));have HU5:=qq (show Upd (fun k=>spS l A B k∨k=ab) w w5 by rw [hw5];exact HUN.out _ U4.out);rw [←hg1] at HSM5;have HX2:=qq (show g.maybe c=(g1.commit? (min c.b (c.pI+(v.es.n:Int)))).map fun g''=>({LAns.none with n:=c.pI+(v.es.n:Int),flag:=true},g'') by rw [hg1];exact HX.out);clear HX;have HX:=HX2;clear HX2;rw [←hw5];clear p1 p2 p7 p8 p9 k2 hw5 hg1 hB5;have HM:=qq (show ∀W,Ka N W l A B5 g1→Calls Tryz.prog 24 #[pp l,.int .u64 (min c.b (c.pI+(v.es.n:Int)))] W fun e w'=>e=.returned (.bool (g1.commit? (min c.b (c.pI+(v.es.n:Int)))).isSome)∧Ka N w' l A B5 ((g1.commit? (min c.b (c.pI+(v.es.n:Int)))).getD g1)∧Upd (spS l A B5) W w' from fun W h=>spCommit h HSM5.out);have a1:w5.cell? ⟨ab,1,none⟩=some (.int .u64 0):=HAB5.out.cell 1;have a3:w5.cell? ⟨ab,3,none⟩=some (.bool false):=HAB5.out.cell 3;have ya:=HAB5.out.frozen;have hpa:w.heap.size≠ab:=HPB5.out.ne_ HAB5.out (by decide)
     have q2:w5.cell? ⟨w.heap.size,2,none⟩=some (.int .u64 c.b):=HBB.out ▸HPB5.out.cell 2;have HU6:=qq (show Upd (fun k=>k=ab) w5 ((w5.setCell ⟨ab,1,none⟩ (.int .u64 (c.pI+(v.es.n:Int)))).setCell ⟨ab,3,none⟩ (.bool true)) from ((Upd.refl (fun k=>k=ab) w5).setIn rfl 1 _).setIn rfl 3 _);have HB6:=qq (show Blk ((w5.setCell ⟨ab,1,none⟩ (.int .u64 (c.pI+(v.es.n:Int)))).setCell ⟨ab,3,none⟩ (.bool true)) ab 48 ({Ja.nil with n:=c.pI+(v.es.n:Int),flag:=true}:Ja).cells from (HAB5.out.set_ 1 _).set_ 3 _);have HS6:=qq (HS5.out.at_ab HAB5.out HNB.out HU6.out);go_wp2_with fail
     refine (HM.out _ HS6.out).mono ?_;rintro r w7 ⟨rfl,hs7,hu7⟩;have HS7:=qq hs7;have HU7:=qq hu7;clear hs7 hu7;go_wp2;go_ret;have hB7:=HB6.out.upd HU7.out (HS6.out.nab HB6.out);have hbb5:=HB5.out;refine mayFin (V:={Ja.nil with n:=c.pI+(v.es.n:Int),flag:=true}) ?_ rfl hbb5 HS7.out hB7 (fun he=>?_) fun An g2 he=>?_
     ·refine (HU5.out.Ke (HU6.out.mono fun k hk=>.inr hk)).Ke (HU7.out.mono fun k hk=>.inl ?_);rcases hk with e|e|e
      ·exact .inl e
      ·exact .inr (.inl e)
      ·exact .inr (.inr (e.trans hbb5))
     ·rw [HX.out] at he;cases hz:g1.commit? (min c.b (c.pI+(v.es.n:Int))) with
      |none=>rfl
      |some g3=>rw [hz] at he;cases he
     ·rw [HX.out] at he;cases hz:g1.commit? (min c.b (c.pI+(v.es.n:Int))) with
      |none=>rw [hz] at he;cases he
      |some g3=>rw [hz] at he;cases he;exact ⟨rfl,⟨rfl,rfl,rfl,rfl,rfl,rfl,Jg.nil none,SnV.Js _ _⟩,rfl⟩
end
end Go.Proofs.YtmagnkjodjmojaaGreat
