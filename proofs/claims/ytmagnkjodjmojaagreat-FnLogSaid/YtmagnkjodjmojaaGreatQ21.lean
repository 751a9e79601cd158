/- A part of the proof of FnLog: laws and walks, with their conditions written at each. -/
import Derived.Deep.MidRow
import Derived.Deep.RegionLaw
import Derived.Test.YtmagnkjodjmojaaGreatQ16
import Derived.Test.YtmagnkjodjmojaaGreatQ20
set_option maxRecDepth 20000
set_option maxHeartbeats 4000000
set_option linter.all false
namespace Go.Proofs.YtmagnkjodjmojaaGreat
open Go.RowKit
section
variable {N:Nat} {w w' w'':World} {J J':LId} {g g':LgL} {v:Jc} {c:LCall} {A:LAns} {rb:Nat}
theorem logFields (h:Jf N w J g):Calls Tryz.prog 74 #[.pointer (some ⟨J.l,0,none⟩)] w fun e w'=>e=.returned (.tuple #[.int .u64 g.com,.int .u64 g.apg,.int .u64 g.apd,.bool g.paused])∧Upd No w w':=by
 have c6:=h.c6;have c7:=h.c7;have c8:=h.c8;have c11:=h.c11;have U0:=qq fun (n:Nat)=>(Upd.refl No w).drewN n;clear h;go_enter Tryz.func74,Tryz.ntmps74;go_wp2_with fail
 go_quiet (fail)
 go_wp2;refine bodyPost_ret (v:=.tuple #[.int .u64 g.com,.int .u64 g.apg,.int .u64 g.apd,.bool g.paused]) (by simp [results,Tryz.results74,go_sem]) rfl ⟨rfl,U0.out _⟩
def Ja.beh (V:Ja) (g:LgL):Ja:={V with com:=g.com,apg:=g.apg,apd:=g.apd,paused:=g.paused}
theorem behindW {V:Ja} (h:Jf N w J g) (hr:Blk w rb 94 #[.pointer (some ⟨J.I.ms,0,none⟩),.pointer (some ⟨J.l,0,none⟩)]):
  Calls Tryz.prog 42 #[.pointer (some ⟨rb,0,none⟩),.agg V.cells] w fun e w'=>e=.returned (.agg (V.beh g).cells)∧Upd No w w':=by
 have zr:w.cell? ⟨rb,1,none⟩=some (pp J.l):=hr.cell 1;have dr:=fun (o1 o2:Obj)=>cell2 (o1:=o1) (o2:=o2) zr;have HF:=qq fun (W:World) (hu:Upd No w W)=>logFields (h.no hu);have B0:=qq (show Blk ((w.alloc (.cells V.cells 48)).alloc (.cells Ja.nil.cells 48)) w.heap.size 48 V.cells from (Blk.new_ rfl).alloc _);have B1:=qq (show Blk ((w.alloc (.cells V.cells 48)).alloc (.cells Ja.nil.cells 48)) (w.heap.size+1) 48 Ja.nil.cells from Blk.new_ (by simp));have U0:=qq (show Upd No w ((w.alloc (.cells V.cells 48)).alloc (.cells Ja.nil.cells 48)) from ((Upd.refl No w).alloc _).alloc _)
 have HE:((w.alloc (Obj.cells #[.int .i64 V.err,.int .u64 V.n,.int .u64 V.m,.bool V.flag,.int .u64 V.atT,.int .u64 V.atI,V.es.v,.slice none 0 0,
 .string V.sn.data,.int .u64 V.sn.index,.int .u64 V.sn.term,V.sn.cf.vo.v,V.sn.cf.le.v,V.sn.cf.ou.v,V.sn.cf.ne.v,.bool V.sn.cf.auto,
 .int .u64 V.com,.int .u64 V.apg,.int .u64 V.apd,.bool V.paused,.bool false] 48)).alloc (Obj.cells Z48 48))=((w.alloc (.cells V.cells 48)).alloc (.cells Ja.nil.cells 48)):=rfl
 obtain ⟨W,hW⟩:∃W,W=((w.alloc (.cells V.cells 48)).alloc (.cells Ja.nil.cells 48)):=⟨_,rfl⟩;rw [←hW] at B0 B1 U0 HE;have zW:W.cell? ⟨rb,1,none⟩=some (pp J.l):=by rw [hW];exact cell2 zr
 clear hW h hr dr zr;unfold Ja.cells;go_enter Tryz.func42,Tryz.ntmps42;go_wp2_with fail
 refine (HF.out _ U0.out).mono ?_;rintro r w1 ⟨rfl,U1⟩;have hb0:=B0.out.upd U1 (fun h=>h);have z16:w1.cell? ⟨w.heap.size,16,none⟩=some (.int .u64 V.com):=hb0.cell 16;have z17:w1.cell? ⟨w.heap.size,17,none⟩=some (.int .u64 V.apg):=hb0.cell 17;have z18:w1.cell? ⟨w.heap.size,18,none⟩=some (.int .u64 V.apd):=hb0.cell 18;have z19:w1.cell? ⟨w.heap.size,19,none⟩=some (.bool V.paused):=hb0.cell 19;have yy:=hb0.frozen;have HB0:=qq hb0;have HB1:=qq (B1.out.upd U1 (fun h=>h));have HU1:=qq (U0.out.no U1);obtain ⟨w2,hw2⟩:∃W,W=(((w1.setCell ⟨w.heap.size,16,none⟩ (.int .u64 g.com)).setCell ⟨w.heap.size,17,none⟩ (.int .u64 g.apg)).setCell ⟨w.heap.size,18,none⟩ (.int .u64 g.apd)).setCell ⟨w.heap.size,19,none⟩ (.bool g.paused):=⟨_,rfl⟩;have HB2:=qq (show Blk w2 w.heap.size 48 (V.beh g).cells by rw [hw2];exact (((HB0.out.set_ 16 _).set_ 17 _).set_ 18 _).set_ 19 _);have HB3:=qq (show Blk w2 (w.heap.size+1) 48 Ja.nil.cells by rw [hw2];exact (((HB1.out.far (by simp) _).far (by simp) _).far (by simp) _).far (by simp) _);have HU2:=qq (show Upd No w w2 by rw [hw2];exact (((HU1.out.setCell (.inr (Nat.le_refl _)) _).setCell (.inr (Nat.le_refl _)) _).setCell (.inr (Nat.le_refl _)) _).setCell (.inr (Nat.le_refl _)) _);have HW2:=qq hw2;have HS:=qq (Ja.inf (V.beh g));have HO:=qq (Ja.one (V.beh g));clear hw2 U1 hb0
 go_wp2_with (first
  |(with_reducible refine Jm rfl 48 (.tmp 3) rfl w.heap.size (V.beh g).cells rfl 48 _ (HW2.out ▸HB2.out) Tryz.underlying48 rfl HS.out ?_)
  |(with_reducible refine Jk rfl 48 (.tmp 4) (.tmp 19) rfl (w.heap.size+1) (V.beh g).cells rfl rfl 48 Ja.nil.cells (HW2.out ▸HB3.out) HS.out rfl HO.out ?_))
 intro w4 hb4 hu4;go_wp2;refine Ja.ret (V.beh g) rfl (w.heap.size+1) rfl hb4 rfl ⟨rfl,?_⟩;rw [←HW2.out] at hu4;exact HU2.out.trans hu4 (by rintro k rfl;exact .inr (by omega))
variable {I:SId} {s:StL}
theorem z73 {a b:Value} {Q:Value→World→Prop} (h:Calls Tryz.prog 139 #[a,b] w fun e w'=>∃v,e=.returned v∧Q v w'):
  Calls Tryz.prog 73 #[a,b] w fun e w'=>∃v,e=.returned v∧Q v w':=by
 go_enter Tryz.func73,Tryz.ntmps73;go_wp2_with fail
 refine h.mono ?_;rintro r w1 ⟨v,rfl,hq⟩;go_wp2;go_ret;exact ⟨v,rfl,hq⟩
theorem newLogZ (h:Je N w I s) (ho:s.Ok) {size:Int}:
  Calls Tryz.prog 73 #[.iface 86 (.pointer (some ⟨I.ms,0,none⟩)),.int .u64 size] w fun e w'=>∃J:LId,e=.returned (.pointer (some ⟨J.l,0,none⟩))∧Jf N w' J (LgL.fresh s size)∧J.I=I∧Upd (fun k=>k=I.ms) w w':=
 zz1 z73 (val:=fun J:LId=>.pointer (some ⟨J.l,0,none⟩)) (newLog h ho)
theorem beginW (h:Je N w I s) (ho:s.Ok) (hr:Blk w rb 94 #[.pointer (some ⟨I.ms,0,none⟩),.pointer none]) (hN:N≤rb) {size:Int}:
  Calls Tryz.prog 40 #[.pointer (some ⟨rb,0,none⟩),.int .u64 size] w fun e w'=>e=.returned (.agg (Ja.nil.beh (LgL.fresh s size)).cells)∧
   ∃J,J.I=I∧Jf N w' J (LgL.fresh s size)∧Blk w' rb 94 #[.pointer (some ⟨I.ms,0,none⟩),.pointer (some ⟨J.l,0,none⟩)]∧Upd (fun k=>k=I.ms∨k=rb) w w':=by
 have zr:w.cell? ⟨rb,0,none⟩=some (pp I.ms):=hr.cell 0;have HF:=qq fun (o:Obj)=>newLogZ (h.no ((Upd.refl No w).alloc o)) ho (size:=size);have hne:rb≠I.ms:=hr.ty.ne_ h.mst (by decide);have BR:=qq fun (o:Obj) (w1:World) (hu:Upd (fun k=>k=I.ms) (w.alloc o) w1)=>(hr.alloc o).upd hu hne;have BA:=qq fun (w1:World) (hu:Upd (fun k=>k=I.ms) (w.alloc (.cells Ja.nil.cells 48)) w1)=>(Blk.new w 48 Ja.nil.cells).upd hu (by have:=h.mst.lt;omega);have hlt:=hr.lt;have dz:=fun (o:Obj)=>cell_alloc (o:=o) zr;clear h ho hr;go_enter Tryz.func40,Tryz.ntmps40;go_wp2_with fail
 refine (HF.out _).mono ?_;rintro r w1 ⟨J,rfl,R1,e1,U1⟩;have hb1:=BR.out _ _ U1;have z1:w1.cell? ⟨rb,1,none⟩=some (.pointer none):=hb1.cell 1;have y1:=hb1.frozen 1;obtain ⟨w2,hw2⟩:∃W,W=w1.setCell ⟨rb,1,none⟩ (pp J.l):=⟨_,rfl⟩;have hb2:Blk w2 rb 94 #[pp I.ms,pp J.l]:=by rw [hw2];exact hb1.set_ 1 _
 have hu2:Upd (fun k=>k=rb) w1 w2:=by rw [hw2];exact (Upd.refl (fun k=>k=rb) w1).setIn rfl 1 _
 have hf2:Fr N w1 w2:=hu2.fr (by rintro k rfl;exact hb1.mutb hN rfl)
 have R2:Jf N w2 J (LgL.fresh s size):=R1.upd hu2 hf2 (by
  rintro k T rfl ht hl;by_cases e:T=94
  ·subst e;cases hl
  ·exact ht.ne_ hb1.ty e rfl)
 have hba:Blk w2 w.heap.size 48 Ja.nil.cells:=(BA.out _ U1).upd hu2 (by omega);have U2:Upd (fun k=>k=I.ms∨k=rb) w w2:=((((Upd.refl _ w).alloc (.cells Ja.nil.cells 48)).Ke (U1.mono fun _ hk=>.inl hk)).Ke (hu2.mono fun _ hk=>.inr hk));have hb2':=hb2;rw [←e1] at hb2';have HB:=qq (behindW (V:=Ja.nil) R2 hb2');have HW2:=qq hw2;have E1:=qq e1;have HFIN:=qq (And.intro hb2 (And.intro R2 (And.intro hba U2)));have HI:=qq (Ja.inf (Ja.nil.beh (LgL.fresh s size)));have HO:=qq (Ja.one (Ja.nil.beh (LgL.fresh s size)));clear hb1 hb2 hb2' hu2 hf2 R2 hba U2 R1 U1 e1 hw2;go_wp2_with fail
 rw [←HW2.out];refine HB.out.mono ?_;rintro r w3 ⟨rfl,U3⟩;have HBA3:=qq (HFIN.out.2.2.1.upd U3 (fun h=>h));have HU3:=qq U3;clear U3;go_wp2_with (with_reducible refine Jk rfl 48 (.tmp 4) (.tmp 17) rfl w.heap.size (Ja.nil.beh (LgL.fresh s size)).cells rfl rfl 48 Ja.nil.cells HBA3.out HI.out rfl HO.out ?_)
 intro w4 hb4 hu4;go_wp2;refine Ja.ret (Ja.nil.beh (LgL.fresh s size)) rfl w.heap.size rfl hb4 rfl ⟨rfl,J,E1.out,?_,?_,?_⟩
 ·have R3:=HFIN.out.2.1.no HU3.out
  exact R3.upd hu4 (hu4.fr (by rintro k rfl;exact HBA3.out.mutb (by omega) rfl)) (by
   rintro k T rfl ht hl;by_cases e:T=48
   ·subst e;cases hl
   ·exact ht.ne_ HBA3.out.ty e rfl)
 ·exact (HFIN.out.1.upd HU3.out (fun h=>h)).upd hu4 (by omega)
 ·exact (HFIN.out.2.2.2.no HU3.out).trans hu4 (by rintro k rfl;exact .inr (Nat.le_refl _))
end
theorem inf45:(Tryz.prog.info? 45).map (·.size)=some 34:=by kernel_rfl
section
variable {N:Nat} {w w' w'':World} {J J':LId} {g g':LgL} {v:Jc} {c:LCall} {A:LAns} {rb:Nat}
theorem Blk.range {b:Nat} {T:TypeId} {cs:Array Value} (h:Blk w b T cs):w.rangeAt b 0 cs.toList:=fun j u hj=>by
 rw [Nat.zero_add,h.cell];simpa using hj
theorem clo41 {rv cb ab:Nat} {V0:Ja} (h:Jf N w J g) (hrv:Blk w rv 91 #[.pointer (some ⟨rb,0,none⟩)]) (hr:Blk w rb 94 #[.pointer (some ⟨J.I.ms,0,none⟩),.pointer (some ⟨J.l,0,none⟩)])
  (hcb:Blk w cb 45 v.cells) (hab:Blk w ab 48 V0.cells) (hN:N≤ab)
  (hcall:∀W,Upd No w W→Calls Tryz.prog 43 #[.pointer (some ⟨rb,0,none⟩),.agg v.cells] W fun e w'=>∃V:Ja,e=.returned (.agg V.cells)∧V.Rd N w' A∧LgR N W J g' w'):
  Calls Tryz.prog 41 #[.pointer (some ⟨rv,0,none⟩),.pointer (some ⟨cb,0,none⟩),.pointer (some ⟨ab,0,none⟩)] w fun e w'=>e=.returned (.tuple #[])∧
   ∃V:Ja,(∃J',J'.as J∧Jf N w' J' g')∧Blk w' ab 48 (V.beh g').cells∧V.Rd N w' A∧Upd (FU N w ab) w w':=by
 have HR:=qq (show w.rangeAt cb 0 v.cells.toList from hcb.range);have HI:=qq (show (Tryz.prog.info? 45).map (·.size)=some v.cells.toList.length from inf45);have zr:w.cell? ⟨rv,0,none⟩=some (pp rb):=hrv.cell 0
 have HX:=qq fun (W:World) (hu:Upd (FU N w ab) w W)=>(show W.cell? ⟨rv,0,none⟩=some (pp rb)∧W.rangeAt cb 0 v.cells.toList∧Upd (FU N w ab) w W from
  ⟨(FU.blk hu hrv rfl (hrv.ne_ hab (by decide))).cell 0,(FU.blk hu hcb rfl (hcb.ne_ hab (by decide))).range,hu⟩)
 have HCALL:=qq (hcall w.drew ((Upd.refl No w).drew))
 have HBH:=qq fun (W:World) (V:Ja) (hL:LgR N w.drew J g' W)=>(show ∃J',J'.as J∧Calls Tryz.prog 42 #[pp rb,.agg V.cells] W fun e w'=>e=.returned (.agg (V.beh g').cells)∧Jf N w' J' g'∧Upd No W w' from by
  obtain ⟨⟨J1,e1,R1⟩,U1⟩:=hL;have hb:=LU.blk U1 hr.drew rfl;rw [←e1.l,←e1.ms] at hb
  exact ⟨J1,e1,(behindW R1 hb).mono fun _ _ ⟨h1,h2⟩=>⟨h1,R1.no h2,h2⟩⟩)
 have HAB:=qq hab;clear h hrv hr hcb hab hcall;go_enter Tryz.func41,Tryz.ntmps41;go_wp2_with fail
 refine wp_region_held_drew (S:=fun W=>W.cell? ⟨rv,0,none⟩=some (pp rb)∧W.rangeAt cb 0 v.cells.toList∧Upd (FU N w ab) w W) (by kernel_rfl) (HX.out _ ((Upd.refl _ w).drew)) (fun hHeld=>?_);refine wpAnyH_take (i:=0) (v:=pp rb) rfl (by kernel_rfl) (by kernel_rfl) (by kernel_rfl) (fun _ _ _ h=>h) (Or.inl ⟨by rfl,by intro W hS;have hS0:=hS.1;go_simp⟩) hHeld ?_;try simp only [NR]
 refine wpAnyH_take (i:=1) (v:=pp rb) rfl (by kernel_rfl) (by kernel_rfl) (by kernel_rfl) (fun _ _ _ h=>h) (Or.inl ⟨by rfl,by intro W hS;have hS0:=hS.1;go_simp⟩) hHeld ?_;try simp only [NR]
 refine wpAnyH_take (i:=2) (v:=.agg v.cells.toList.toArray) rfl (by kernel_rfl) (by kernel_rfl) (by kernel_rfl) (fun _ _ _ h=>h) (yieldsIf_load_mid (by rfl) 45 (.tmp 1) rfl cb 0 rfl v.cells.toList _ (fun W hS=>hS.2.1) Tryz.underlying45 rfl HI.out) hHeld ?_;try simp only [Act.put,List.setIfInBounds_toArray,List.set_cons_zero,List.set_cons_succ,Array.toArray_toList]
 refine wpAnyH_ready (rs:=[3]) (by kernel_rfl) (by simp) ?_;refine ac rfl fun K hK=>?_;rw [if_pos (by rfl)];go_simp;refine HCALL.out.mono ?_;rintro r w1 ⟨V,rfl,hV,hL⟩;obtain ⟨J1,e1,hbeh⟩:=HBH.out _ V hL;have HBEH:=qq hbeh;have HE1:=qq e1;have HV:=qq hV;have U1:=qq (FU.lu (w':=w.drew) ((Upd.refl (FU N w ab) w).drew) hL.2);have HAB1:=qq (LU.blk hL.2 HAB.out.drew rfl);clear hbeh e1 hV hL;go_wp2_with fail
 refine hK.out _ _ (HX.out _ U1.out) (fun hHeld=>?_);clear hK;try simp only [NR]
 refine wpAnyH_ready (rs:=[4]) (by kernel_rfl) (by simp) ?_;refine ac rfl fun K hK=>?_;rw [if_pos (by rfl)];go_simp;refine HBEH.out.mono ?_;rintro r w2 ⟨rfl,R2,U2⟩;have HV2:=qq (HV.out.fr U2.fr0);have U2':=qq (U1.out.no U2);have HAB2:=qq (HAB1.out.upd U2 (fun h=>h));have R2:=qq R2;clear U2;go_wp2_with fail
 refine hK.out _ _ (HX.out _ U2'.out) (fun hHeld=>?_);clear hK;try simp only [NR]
 refine wpAnyH_ready (rs:=[5]) (by kernel_rfl) (by simp) ?_;refine ac rfl fun K hK=>?_;refine step_store_blk rfl 48 (.tmp 2) (.tmp 7) rfl ab (V.beh g').cells rfl rfl 48 V0.cells HAB2.out (Ja.inf _) rfl (Ja.one _) ?_;intro w3 hb3 hu3;have U3:=U2'.out.trans hu3 (fun _ hk=>.inl (.inr hk));refine hK.out _ _ (HX.out _ U3) (fun hHeld=>?_);clear hK;try simp only [NR]
 refine wpAnyH_done (by kernel_rfl) ?_ _;go_wp2;go_end0;have hf3:Fr N w2 w3:=hu3.fr (by rintro k rfl;exact HAB2.out.mutb hN rfl)
 refine ⟨rfl,V,⟨J1,HE1.out,R2.out.upd hu3 hf3 (by
  rintro k T rfl ht hl;by_cases e:T=48
  ·subst e;cases hl
  ·exact ht.ne_ HAB2.out.ty e rfl)⟩,hb3,HV2.out.fr hf3,U3⟩
end
theorem inf48z:(Tryz.prog.info? 48).map (fun i=>(i.zero,i.size,i.bytes))=some (some (.agg Ja.nil.cells),21,264):=by kernel_rfl
theorem Ja.oneL (v:Ja):∀u∈v.cells.toList,u.oneCell'=true:=fun u hu=>by
 have:=(Array.all_eq_true_iff_forall_mem.1 v.one) u (by simpa using hu)
 exact this
section
variable {N:Nat} {w w' w'':World} {I:SId} {s:StL} {rb:Nat}
theorem clo39 {ob rv sb base:Nat} {size:Int} (h:Je N w I s) (ho:s.Ok) (hr:Blk w rb 94 #[.pointer (some ⟨I.ms,0,none⟩),.pointer none]) (hN:N≤rb)
  (hob:Blk w ob 52 #[.slice none 0 0]) (hrv:Blk w rv 91 #[.pointer (some ⟨rb,0,none⟩)]) (hsb:Blk w sb 23 #[.int .u64 size]) (hbase:base≤w.heap.size) (hNo:N≤ob):
  Calls Tryz.prog 39 #[.pointer (some ⟨ob,0,none⟩),.pointer (some ⟨rv,0,none⟩),.pointer (some ⟨sb,0,none⟩)] w fun e w'=>e=.returned (.tuple #[])∧
   ∃(J:LId) (g cap:Nat),J.I=I∧Jf N w' J (LgL.fresh s size)∧Blk w' rb 94 #[.pointer (some ⟨I.ms,0,none⟩),.pointer (some ⟨J.l,0,none⟩)]∧Blk w' ob 52 #[.slice (some ⟨g,0,none⟩) 1 cap]∧
    w'.ownsRow base 48 21 (.slice (some ⟨g,0,none⟩) 1 cap) 1 (Ja.nil.beh (LgL.fresh s size)).cells.toList∧Upd (fun k=>k=I.ms∨k=rb∨k=ob) w w':=by
 obtain ⟨i,hi,hz,hsize,hby⟩:=info_parts inf48z;have zo:w.cell? ⟨ob,0,none⟩=some (.slice none 0 0):=hob.cell 0;have zr:w.cell? ⟨rv,0,none⟩=some (pp rb):=hrv.cell 0;have zs:w.cell? ⟨sb,0,none⟩=some (.int .u64 size):=hsb.cell 0;have HB:=qq (beginW (size:=size) (h.no ((Upd.refl No w).drew)) ho hr.drew hN);have hne:¬(ob=I.ms∨ob=rb):=by
  rintro (e|e)
  ·exact hob.ty.ne_ h.mst (by decide) e
  ·exact hob.ne_ hr (by decide) e
 have HOB:=qq fun (W:World) (hu:Upd (fun k=>k=I.ms∨k=rb) w.drew W)=>(hob.drew.upd hu hne);have HFIN:=qq fun (w1 w2:World) (J:LId) (g cap:Nat) (e1:J.I=I) (R1:Jf N w1 J (LgL.fresh s size)) (B1:Blk w1 rb 94 #[pp I.ms,pp J.l]) (U1:Upd (fun k=>k=I.ms∨k=rb) w.drew w1) (hu2:Upd No w1 w2)
   (hown:w2.ownsRow base 48 21 (.slice (some ⟨g,0,none⟩) (0+1) cap) (0+1) ([]++(Ja.nil.beh (LgL.fresh s size)).cells.toList)) (hg:(Value.slice none 0 0).ownBlock=some g∨g=(w1.alloc (.cells (Ja.nil.beh (LgL.fresh s size)).cells 48)).heap.size)=>(show Ending.returned (.tuple #[])=Ending.returned (.tuple #[])∧
   ∃(J:LId) (g_1 cap_1:Nat),J.I=I∧Jf N (w2.setCell ⟨ob,0,none⟩ (.slice (some ⟨g,0,none⟩) (0+1) cap)) J (LgL.fresh s size)∧Blk (w2.setCell ⟨ob,0,none⟩ (.slice (some ⟨g,0,none⟩) (0+1) cap)) rb 94 #[pp I.ms,pp J.l]∧Blk (w2.setCell ⟨ob,0,none⟩ (.slice (some ⟨g,0,none⟩) (0+1) cap)) ob 52 #[.slice (some ⟨g_1,0,none⟩) 1 cap_1]∧
    (w2.setCell ⟨ob,0,none⟩ (.slice (some ⟨g,0,none⟩) (0+1) cap)).ownsRow base 48 21 (.slice (some ⟨g_1,0,none⟩) 1 cap_1) 1 (Ja.nil.beh (LgL.fresh s size)).cells.toList∧Upd (fun k=>k=I.ms∨k=rb∨k=ob) w (w2.setCell ⟨ob,0,none⟩ (.slice (some ⟨g,0,none⟩) (0+1) cap)) from by
  have hB1:=hob.drew.upd U1 hne;have hB2:=hB1.upd hu2 (fun h=>h);have hu3:Upd (fun k=>k=ob) w2 (w2.setCell ⟨ob,0,none⟩ (.slice (some ⟨g,0,none⟩) (0+1) cap)):=(Upd.refl (fun k=>k=ob) w2).setIn rfl 0 _;have hf3:Fr N w2 (w2.setCell ⟨ob,0,none⟩ (.slice (some ⟨g,0,none⟩) (0+1) cap)):=hu3.fr (by rintro k rfl;exact hB2.mutb hNo rfl);have R2:=R1.no hu2
  refine ⟨rfl,J,g,cap,e1,R2.upd hu3 hf3 (by
   rintro k T rfl ht hl;by_cases e:T=52
   ·subst e;cases hl
   ·exact ht.ne_ hB2.ty e rfl),(B1.upd hu2 (fun h=>h)).far (fun e=>(B1.upd hu2 (fun h=>h)).ne_ hB2 (by decide) e) _,hB2.set_ 0 _,?_,?_⟩
  ·refine own_upd hown hu3 (fun k hk ho=>?_);subst hk;have h5:g=k:=by simpa [Value.ownBlock] using ho
   subst h5;rcases hg with h6|h6
   ·cases h6
   ·have h7:=hB1.lt;simp at h6;omega
  ·exact ((((Upd.refl _ w).drew.Ke (U1.mono fun k hk=>hk.elim (fun h=>.inl h) (fun h=>.inr (.inl h)))).no hu2).Ke (hu3.mono fun k hk=>.inr (.inr hk))))
 have HSR:=qq fun (W:World) (hu:Upd (fun k=>k=I.ms∨k=rb) w.drew W)=>(show W.cell? ⟨rv,0,none⟩=some (pp rb)∧W.cell? ⟨sb,0,none⟩=some (.int .u64 size) from
  ⟨(hrv.drew.upd hu (by rintro (e|e);exact hrv.ty.ne_ h.mst (by decide) e;exact hrv.ne_ hr (by decide) e)).cell 0,(hsb.drew.upd hu (by rintro (e|e);exact hsb.ty.ne_ h.mst (by decide) e;exact hsb.ne_ hr (by decide) e)).cell 0⟩)
 have HS3:=qq fun (W:World) (x:Value) (hS:W.cell? ⟨rv,0,none⟩=some (pp rb)∧W.cell? ⟨sb,0,none⟩=some (.int .u64 size))=>(show (W.setCell ⟨ob,0,none⟩ x).cell? ⟨rv,0,none⟩=some (pp rb)∧(W.setCell ⟨ob,0,none⟩ x).cell? ⟨sb,0,none⟩=some (.int .u64 size) from
  ⟨by rw [World.cell?_setCell_far _ _ _ _ (hob.ne_ hrv (by decide))];exact hS.1,by rw [World.cell?_setCell_far _ _ _ _ (hob.ne_ hsb (by decide))];exact hS.2⟩)
 have HNE:=qq (show ob≠rv∧ob≠sb from ⟨hob.ne_ hrv (by decide),hob.ne_ hsb (by decide)⟩);have HI:=qq (And.intro hi (And.intro hz (And.intro hsize hby)));clear h ho hr hob hrv hsb hi hz hsize hby;generalize hF:LgL.fresh s size=G at*;clear hF;unfold Ja.cells at HB;go_enter Tryz.func39,Tryz.ntmps39;go_wp2_with fail
 refine wp_region_held_drew (S:=fun W=>W.cell? ⟨rv,0,none⟩=some (pp rb)∧W.cell? ⟨sb,0,none⟩=some (.int .u64 size)) (by kernel_rfl) (HSR.out _ (Upd.refl _ _)) (fun hHeld=>?_);refine wpAnyH_take (i:=1) (v:=pp rb) rfl (by kernel_rfl) (by kernel_rfl) (by kernel_rfl) (fun _ _ _ h=>h) (Or.inl ⟨by rfl,by intro W hS;have hS0:=hS.1;go_simp⟩) hHeld ?_;try simp only [NR]
 refine wpAnyH_take (i:=2) (v:=.int .u64 size) rfl (by kernel_rfl) (by kernel_rfl) (by kernel_rfl) (fun _ _ _ h=>h) (Or.inl ⟨by rfl,by intro W hS;have hS0:=hS.2;go_simp⟩) hHeld ?_;try simp only [NR]
 refine wpAnyH_ready (rs:=[0,3]) (by kernel_rfl) (by simp) ?_;refine AllReadyH.cons (o:=_) rfl (fun K hK=>?_) ?_
 ·rw [if_pos (by rfl)];go_simp;refine hK.out _ _ hHeld (fun hHeld=>?_);clear hK;try simp only [NR]
  refine wpAnyH_ready (rs:=[3]) (by kernel_rfl) (by simp) ?_;refine ac rfl fun K hK=>?_;rw [if_pos (by rfl)];go_simp;refine HB.out.mono ?_;rintro r w1 ⟨rfl,J,e1,R1,B1,U1⟩;have zo1:w1.cell? ⟨ob,0,none⟩=some (.slice none 0 0):=(HOB.out _ U1).cell 0;have yo1:w1.frozen? ⟨ob,0,none⟩=false:=(HOB.out _ U1).frozen 0;have hb1:base≤w1.heap.size:=Nat.le_trans hbase U1.size;have HJ:=qq e1;have HR1:=qq R1;have HB1:=qq B1;have HU1:=qq U1;clear e1 R1 B1 U1;go_wp2_with fail
  refine hK.out _ _ (HSR.out _ HU1.out) (fun hHeld=>?_);clear hK;try simp only [NR]
  refine wpAnyH_ready (rs:=[4]) (by kernel_rfl) (by simp) ?_;refine ac rfl fun K hK=>?_;rw [if_pos (by rfl)];go_simp;refine hK.out _ _ ⟨by rw [World.cell?_alloc_some _ _ _ (by rw [hHeld.1];rfl)];exact hHeld.1,by rw [World.cell?_alloc_some _ _ _ (by rw [hHeld.2];rfl)];exact hHeld.2⟩ (fun hHeld=>?_);clear hK;try simp only [NR]
  have zo2:(w1.alloc (.cells (Ja.nil.beh G).cells 48)).cell? ⟨ob,0,none⟩=some (.slice none 0 0):=by rw [World.cell?_alloc_some _ _ _ (by rw [zo1];rfl)];exact zo1
  have hb2:base≤(w1.alloc (.cells (Ja.nil.beh G).cells 48)).heap.size:=Nat.le_trans hb1 (by simp);unfold Ja.cells at zo2;refine wpAnyH_ready (rs:=[5]) (by kernel_rfl) (by simp) ?_;refine ac rfl fun K hK=>?_;refine step_append_lies _ rfl (.tmp 3) (.tmp 7) 52 rfl base 48 i (.agg Ja.nil.cells) 21 264 Tryz.underlying52 HI.out.1 HI.out.2.1 HI.out.2.2.1 HI.out.2.2.2 rfl (by omega) (.slice none 0 0) 0 [] rfl (World.ownsRow_nil _ _ _ _) ⟨w1.heap.size,0,none⟩ 1 1 (Ja.nil.beh G).cells.toList rfl rfl (World.news_of_block (heap_alloc_new w1 _)) (Ja.oneL _) (by omega) (by simp only [maxLen];omega) (by omega) hb2 _ rfl ?_;intro g cap w2 hown hgr hg hlt;have HU2:=qq (show Upd No w1 w2 from ((Upd.refl No w1).alloc _).grown hgr (fun k hk=>by cases hk));have HOWN:=qq hown;have HG:=qq hg;clear hown hgr hg hlt;have HB2:=qq ((HOB.out _ HU1.out).upd HU2.out (fun h=>h));have hS2:=HSR.out _ (HU1.out.no HU2.out);refine hK.out _ _ hS2 (fun hHeld=>?_);clear hK;try simp only [NR]
  refine wpAnyH_ready (rs:=[6]) (by kernel_rfl) (by simp) ?_;refine ac rfl fun K hK=>?_;have zo3:w2.cell? ⟨ob,0,none⟩=some (.slice none 0 0):=HB2.out.cell 0;have yo3:w2.frozen? ⟨ob,0,none⟩=false:=HB2.out.frozen 0;rw [if_pos (by rfl)];go_simp;refine hK.out _ _ (HS3.out _ _ hHeld) (fun hHeld=>?_);clear hK;try simp only [NR]
  refine wpAnyH_done (by kernel_rfl) ?_ _;go_wp2;go_end0;exact ⟨rfl,(HFIN.out _ _ _ _ _ HJ.out HR1.out HB1.out HU1.out HU2.out HOWN.out HG.out).2⟩
 refine ac rfl fun K hK=>?_;rw [if_pos (by rfl)];go_simp;refine HB.out.mono ?_;rintro r w1 ⟨rfl,J,e1,R1,B1,U1⟩;have zo1:w1.cell? ⟨ob,0,none⟩=some (.slice none 0 0):=(HOB.out _ U1).cell 0;have yo1:w1.frozen? ⟨ob,0,none⟩=false:=(HOB.out _ U1).frozen 0;have hb1:base≤w1.heap.size:=Nat.le_trans hbase U1.size;have HJ:=qq e1;have HR1:=qq R1;have HB1:=qq B1;have HU1:=qq U1;clear e1 R1 B1 U1;go_wp2_with fail
 refine hK.out _ _ (HSR.out _ HU1.out) (fun hHeld=>?_);clear hK;try simp only [NR]
 refine wpAnyH_ready (rs:=[0,4]) (by kernel_rfl) (by simp) ?_;refine AllReadyH.cons (o:=_) rfl (fun K hK=>?_) ?_
 ·rw [if_pos (by rfl)];go_simp;refine hK.out _ _ hHeld (fun hHeld=>?_);clear hK;try simp only [NR]
  refine wpAnyH_ready (rs:=[4]) (by kernel_rfl) (by simp) ?_;refine ac rfl fun K hK=>?_;rw [if_pos (by rfl)];go_simp;refine hK.out _ _ ⟨by rw [World.cell?_alloc_some _ _ _ (by rw [hHeld.1];rfl)];exact hHeld.1,by rw [World.cell?_alloc_some _ _ _ (by rw [hHeld.2];rfl)];exact hHeld.2⟩ (fun hHeld=>?_);clear hK;try simp only [NR]
  have zo2:(w1.alloc (.cells (Ja.nil.beh G).cells 48)).cell? ⟨ob,0,none⟩=some (.slice none 0 0):=by rw [World.cell?_alloc_some _ _ _ (by rw [zo1];rfl)];exact zo1
  have hb2:base≤(w1.alloc (.cells (Ja.nil.beh G).cells 48)).heap.size:=Nat.le_trans hb1 (by simp);unfold Ja.cells at zo2;refine wpAnyH_ready (rs:=[5]) (by kernel_rfl) (by simp) ?_;refine ac rfl fun K hK=>?_;refine step_append_lies _ rfl (.tmp 3) (.tmp 7) 52 rfl base 48 i (.agg Ja.nil.cells) 21 264 Tryz.underlying52 HI.out.1 HI.out.2.1 HI.out.2.2.1 HI.out.2.2.2 rfl (by omega) (.slice none 0 0) 0 [] rfl (World.ownsRow_nil _ _ _ _) ⟨w1.heap.size,0,none⟩ 1 1 (Ja.nil.beh G).cells.toList rfl rfl (World.news_of_block (heap_alloc_new w1 _)) (Ja.oneL _) (by omega) (by simp only [maxLen];omega) (by omega) hb2 _ rfl ?_;intro g cap w2 hown hgr hg hlt;have HU2:=qq (show Upd No w1 w2 from ((Upd.refl No w1).alloc _).grown hgr (fun k hk=>by cases hk));have HOWN:=qq hown;have HG:=qq hg;clear hown hgr hg hlt;have HB2:=qq ((HOB.out _ HU1.out).upd HU2.out (fun h=>h));have hS2:=HSR.out _ (HU1.out.no HU2.out);refine hK.out _ _ hS2 (fun hHeld=>?_);clear hK;try simp only [NR]
  refine wpAnyH_ready (rs:=[6]) (by kernel_rfl) (by simp) ?_;refine ac rfl fun K hK=>?_;have zo3:w2.cell? ⟨ob,0,none⟩=some (.slice none 0 0):=HB2.out.cell 0;have yo3:w2.frozen? ⟨ob,0,none⟩=false:=HB2.out.frozen 0;rw [if_pos (by rfl)];go_simp;refine hK.out _ _ (HS3.out _ _ hHeld) (fun hHeld=>?_);clear hK;try simp only [NR]
  refine wpAnyH_done (by kernel_rfl) ?_ _;go_wp2;go_end0;exact ⟨rfl,(HFIN.out _ _ _ _ _ HJ.out HR1.out HB1.out HU1.out HU2.out HOWN.out HG.out).2⟩
 refine ac rfl fun K hK=>?_;rw [if_pos (by rfl)];go_simp;refine hK.out _ _ ⟨by rw [World.cell?_alloc_some _ _ _ (by rw [hHeld.1];rfl)];exact hHeld.1,by rw [World.cell?_alloc_some _ _ _ (by rw [hHeld.2];rfl)];exact hHeld.2⟩ (fun hHeld=>?_);clear hK;try simp only [NR]
 have zo2:(w1.alloc (.cells (Ja.nil.beh G).cells 48)).cell? ⟨ob,0,none⟩=some (.slice none 0 0):=by rw [World.cell?_alloc_some _ _ _ (by rw [zo1];rfl)];exact zo1
 have hb2:base≤(w1.alloc (.cells (Ja.nil.beh G).cells 48)).heap.size:=Nat.le_trans hb1 (by simp);unfold Ja.cells at zo2;refine wpAnyH_ready (rs:=[0]) (by kernel_rfl) (by simp) ?_;refine ac rfl fun K hK=>?_;rw [if_pos (by rfl)];go_simp;refine hK.out _ _ hHeld (fun hHeld=>?_);clear hK;try simp only [NR]
 refine wpAnyH_ready (rs:=[5]) (by kernel_rfl) (by simp) ?_;refine ac rfl fun K hK=>?_;refine step_append_lies _ rfl (.tmp 3) (.tmp 7) 52 rfl base 48 i (.agg Ja.nil.cells) 21 264 Tryz.underlying52 HI.out.1 HI.out.2.1 HI.out.2.2.1 HI.out.2.2.2 rfl (by omega) (.slice none 0 0) 0 [] rfl (World.ownsRow_nil _ _ _ _) ⟨w1.heap.size,0,none⟩ 1 1 (Ja.nil.beh G).cells.toList rfl rfl (World.news_of_block (heap_alloc_new w1 _)) (Ja.oneL _) (by omega) (by simp only [maxLen];omega) (by omega) hb2 _ rfl ?_;intro g cap w2 hown hgr hg hlt;have HU2:=qq (show Upd No w1 w2 from ((Upd.refl No w1).alloc _).grown hgr (fun k hk=>by cases hk));have HOWN:=qq hown;have HG:=qq hg;clear hown hgr hg hlt;have HB2:=qq ((HOB.out _ HU1.out).upd HU2.out (fun h=>h));have hS2:=HSR.out _ (HU1.out.no HU2.out);refine hK.out _ _ hS2 (fun hHeld=>?_);clear hK;try simp only [NR]
 refine wpAnyH_ready (rs:=[6]) (by kernel_rfl) (by simp) ?_;refine ac rfl fun K hK=>?_;have zo3:w2.cell? ⟨ob,0,none⟩=some (.slice none 0 0):=HB2.out.cell 0;have yo3:w2.frozen? ⟨ob,0,none⟩=false:=HB2.out.frozen 0;rw [if_pos (by rfl)];go_simp;refine hK.out _ _ (HS3.out _ _ hHeld) (fun hHeld=>?_);clear hK;try simp only [NR]
 refine wpAnyH_done (by kernel_rfl) ?_ _;go_wp2;go_end0;exact ⟨rfl,(HFIN.out _ _ _ _ _ HJ.out HR1.out HB1.out HU1.out HU2.out HOWN.out HG.out).2⟩
end
end Go.Proofs.YtmagnkjodjmojaaGreat
