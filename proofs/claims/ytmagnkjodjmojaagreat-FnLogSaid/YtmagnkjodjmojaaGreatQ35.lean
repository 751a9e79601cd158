/- A part of the proof of FnLog: laws and walks, with their conditions written at each. -/
import Derived.Test.YtmagnkjodjmojaaGreatQ34
set_option maxRecDepth 20000
set_option maxHeartbeats 4000000
set_option linter.all false
namespace Go.Proofs.YtmagnkjodjmojaaGreat
open Go.RowKit
section
variable {N:Nat} {w w' w0:World} {S:Nat→Prop} {A A':StK} {s:StL} {B B':TlK} {u:TlL} {l p ab:Nat} {g g':LgL}
theorem spAsk_27 (h:Ka N w l A B g) (hp:g.Pre) (ho:g.Ok) {v:Jc} {c:LCall} (hv:v.Rd N w c) (hc:c.Ok) (hfa:c.a<4611686018427387904) (hfb:c.b<4611686018427387904) (hfi:c.atI<4611686018427387904) (hb:Blk w ab 48 Ja.nil.cells) (hN:N≤ab) (hk:v.kind=27):
  Calls Tryz.prog 31 #[.pointer (some ⟨l,0,none⟩),.agg v.cells,.pointer (some ⟨ab,0,none⟩)] w fun e w'=>AskR N w ab (g.ask c) g e w':=by
 have hs:=hp.isSm;have hkc:c.kind=27:=hv.kind.symm.trans hk;have hva:=hv.a;have hvb:=hv.b;have hvf:=hv.flag;have hvt:=hv.atT;have hvi:=hv.atI;obtain ⟨wa,hwa⟩:∃W,w.alloc (.cells v.cells 45)=W:=⟨_,rfl⟩;have HUA:=qq (show Upd No w wa by rw [←hwa];exact (Upd.refl No w).alloc _);have HPB:=qq (show Blk wa w.heap.size 45 v.cells by rw [←hwa];exact Blk.new w _ _);have HSA:=qq (h.no HUA.out);have HAB:=qq (hb.upd HUA.out (fun h=>h));have HNB:=qq hN;have p0:wa.cell? ⟨w.heap.size,0,none⟩=some (.int .i64 27):=by rw [←hk];exact HPB.out.cell 0
 have p1:wa.cell? ⟨w.heap.size,1,none⟩=some (.int .u64 c.a):=by rw [←hva];exact HPB.out.cell 1
 have p2:wa.cell? ⟨w.heap.size,2,none⟩=some (.int .u64 c.b):=by rw [←hvb];exact HPB.out.cell 2
 have p4:wa.cell? ⟨w.heap.size,4,none⟩=some (.bool c.flag):=by rw [←hvf];exact HPB.out.cell 4
 have p5:wa.cell? ⟨w.heap.size,5,none⟩=some (.int .u64 c.atT):=by rw [←hvt];exact HPB.out.cell 5
 have p6:wa.cell? ⟨w.heap.size,6,none⟩=some (.int .u64 c.atI):=by rw [←hvi];exact HPB.out.cell 6
 have k1:wa.cell? ⟨l,1,none⟩=some (pp B.b):=HSA.out.c 1;have k0:wa.cell? ⟨l,0,none⟩=some (pp A.b):=HSA.out.c 0;have hX:g.ask c=some (if g.u.has=true∧g.u.going=false then {LAns.none with flag:=true,snap:=g.u.snap} else LAns.none,g):=by unfold LgL.ask;rw [if_neg (by omega),if_neg (by omega),if_neg (by omega),if_neg (by omega),if_neg (by omega),if_neg (by omega),if_neg (by omega),if_neg (by omega),if_neg (by omega),if_neg (by omega),if_neg (by omega),if_neg (by omega),if_neg (by omega),if_neg (by omega),if_neg (by omega),if_neg (by omega),if_pos hkc]
 have HX:=qq hX;have hnab:=HSA.out.nab HAB.out;have hBa:B.b≠ab:=fun e=>hnab (.inr (.inr e.symm));have hla:l≠ab:=fun e=>hnab (.inl e.symm);have HK1:=qq fun (W:World) (hu:Upd (fun k=>k=ab) wa W)=>hu.cell k1 hla;have b8:wa.cell? ⟨B.b,8,none⟩=some (.bool g.u.has):=HSA.out.tl.c 8;have b11:wa.cell? ⟨B.b,11,none⟩=some (.bool g.u.going):=HSA.out.tl.c 11;have HT:=qq HSA.out.tl.cf;have HBB:=qq HSA.out.tl.blk;have HZ:=qq fun (W:World) (hu:Upd (fun k=>k=ab) wa W) (j:Nat) (v:Value) (h:wa.cell? ⟨B.b,j,none⟩=some v)=>hu.cell h hBa;have a3:wa.cell? ⟨ab,3,none⟩=some (.bool false):=HAB.out.cell 3;have ya:=HAB.out.frozen;rcases hz:g.u.has with _|_
 ·rw [hz] at HX b8;rw [if_neg (fun e=>(by cases e.1))] at HX;generalize g.u.going=y at*;rcases y with _|_
  all_goals
   have HB2:=qq (show Blk (wa.setCell ⟨ab,3,none⟩ (.bool false)) ab 48 Ja.nil.cells from HAB.out.set_ 3 _);have HU2:=qq (show Upd (fun k=>k=ab) wa (wa.setCell ⟨ab,3,none⟩ (.bool false)) from (Upd.refl (fun k=>k=ab) wa).setIn rfl 3 _);clear h hp ho hs hX hz hnab hv hc hb hkc hk hva hvb hvf hvt hvi hN;go_enter Tryz.func31,Tryz.ntmps31;go_wp2_with fail
   go_wp2;go_ret;exact askFin (V:=Ja.nil) (bb:=true) HUA.out HU2.out HB2.out (fun he=>(by rw [HX.out] at he;cases he)) fun An g1 he=>by
    rw [HX.out] at he;cases he;exact ⟨rfl,Ja.Js _ _,rfl⟩
 ·rw [hz] at HX b8;rcases hg:g.u.going with _|_
  ·rw [hg] at HX b11;rw [if_pos ⟨rfl,rfl⟩] at HX;have z0:wa.cell? ⟨B.b,0,none⟩=some (.string B.v.data):=HSA.out.tl.c 0;have z1:wa.cell? ⟨B.b,1,none⟩=some (.int .u64 B.v.index):=HSA.out.tl.c 1;have z2:wa.cell? ⟨B.b,2,none⟩=some (.int .u64 B.v.term):=HSA.out.tl.c 2;have z3:wa.cell? ⟨B.b,3,none⟩=some B.v.cf.vo.v:=HSA.out.tl.c 3;have z4:wa.cell? ⟨B.b,4,none⟩=some B.v.cf.le.v:=HSA.out.tl.c 4;have z5:wa.cell? ⟨B.b,5,none⟩=some B.v.cf.ou.v:=HSA.out.tl.c 5;have z6:wa.cell? ⟨B.b,6,none⟩=some B.v.cf.ne.v:=HSA.out.tl.c 6;have z7:wa.cell? ⟨B.b,7,none⟩=some (.bool B.v.cf.auto):=HSA.out.tl.c 7;have HB2:=qq (show Blk (wa.setCell ⟨ab,3,none⟩ (.bool true)) ab 48 ({Ja.nil with flag:=true}:Ja).cells from HAB.out.set_ 3 _);have HU2:=qq (show Upd (fun k=>k=ab) wa (wa.setCell ⟨ab,3,none⟩ (.bool true)) from (Upd.refl (fun k=>k=ab) wa).setIn rfl 3 _);clear h hp ho hs hX hz hnab hg hv hc hb hkc hk hva hvb hvf hvt hvi hN;go_enter Tryz.func31,Tryz.ntmps31
   go_wp2_with (first
    |(refine Kc (by with_reducible rfl) 39 (.tmp 283) (.tmp 281) (by with_reducible rfl) ab 8 #[.string B.v.data,.int .u64 B.v.index,.int .u64 B.v.term,B.v.cf.vo.v,B.v.cf.le.v,B.v.cf.ou.v,B.v.cf.ne.v,.bool B.v.cf.auto] (by rfl) (by rfl) 48 ({Ja.nil with flag:=true}:Ja).cells ({Ja.nil with flag:=true,sn:=B.v}:Ja).cells HB2.out (fun W hb=>Ja.putSn (V:={Ja.nil with flag:=true}) B.v hb) (snLe _ B.v) (snInf B.v) (sn39 B.v) ?_
      intro w4 hb4 hu4;have HB4:=qq hb4;have HU4:=qq (HU2.out.Ke hu4);have HF4:=qq (HU4.out.fr (N:=N) (by intro k hk;have hk2:=HAB.out.mutb HNB.out rfl;rw [hk];exact hk2))
      clear hb4 hu4)
    |fail)
   go_wp2;go_ret;exact askFin (V:={Ja.nil with flag:=true,sn:=B.v}) (bb:=true) HUA.out HU4.out HB4.out (fun he=>(by rw [HX.out] at he;cases he)) fun An g1 he=>by
    rw [HX.out] at he;cases he;exact ⟨rfl,⟨rfl,rfl,rfl,rfl,rfl,rfl,Jg.nil none,HT.out.fr HF4.out⟩,rfl⟩
  ·rw [hg] at HX b11;rw [if_neg (fun e=>(by cases e.2))] at HX;have HB2:=qq (show Blk (wa.setCell ⟨ab,3,none⟩ (.bool false)) ab 48 Ja.nil.cells from HAB.out.set_ 3 _);have HU2:=qq (show Upd (fun k=>k=ab) wa (wa.setCell ⟨ab,3,none⟩ (.bool false)) from (Upd.refl (fun k=>k=ab) wa).setIn rfl 3 _);clear h hp ho hs hX hz hg hnab hv hc hb hkc hk hva hvb hvf hvt hvi hN;go_enter Tryz.func31,Tryz.ntmps31;go_wp2_with fail
   go_wp2;go_ret;exact askFin (V:=Ja.nil) (bb:=true) HUA.out HU2.out HB2.out (fun he=>(by rw [HX.out] at he;cases he)) fun An g1 he=>by
    rw [HX.out] at he;cases he;exact ⟨rfl,Ja.Js _ _,rfl⟩
theorem spAsk_28 (h:Ka N w l A B g) (hp:g.Pre) (ho:g.Ok) {v:Jc} {c:LCall} (hv:v.Rd N w c) (hc:c.Ok) (hfa:c.a<4611686018427387904) (hfb:c.b<4611686018427387904) (hfi:c.atI<4611686018427387904) (hb:Blk w ab 48 Ja.nil.cells) (hN:N≤ab) (hk:v.kind=28):
  Calls Tryz.prog 31 #[.pointer (some ⟨l,0,none⟩),.agg v.cells,.pointer (some ⟨ab,0,none⟩)] w fun e w'=>AskR N w ab (g.ask c) g e w':=by
 have hs:=hp.isSm;have hkc:c.kind=28:=hv.kind.symm.trans hk;have hva:=hv.a;have hvb:=hv.b;have hvf:=hv.flag;have hvt:=hv.atT;have hvi:=hv.atI;obtain ⟨wa,hwa⟩:∃W,w.alloc (.cells v.cells 45)=W:=⟨_,rfl⟩;have HUA:=qq (show Upd No w wa by rw [←hwa];exact (Upd.refl No w).alloc _);have HPB:=qq (show Blk wa w.heap.size 45 v.cells by rw [←hwa];exact Blk.new w _ _);have HSA:=qq (h.no HUA.out);have HAB:=qq (hb.upd HUA.out (fun h=>h));have HNB:=qq hN;have p0:wa.cell? ⟨w.heap.size,0,none⟩=some (.int .i64 28):=by rw [←hk];exact HPB.out.cell 0
 have p1:wa.cell? ⟨w.heap.size,1,none⟩=some (.int .u64 c.a):=by rw [←hva];exact HPB.out.cell 1
 have p2:wa.cell? ⟨w.heap.size,2,none⟩=some (.int .u64 c.b):=by rw [←hvb];exact HPB.out.cell 2
 have p4:wa.cell? ⟨w.heap.size,4,none⟩=some (.bool c.flag):=by rw [←hvf];exact HPB.out.cell 4
 have p5:wa.cell? ⟨w.heap.size,5,none⟩=some (.int .u64 c.atT):=by rw [←hvt];exact HPB.out.cell 5
 have p6:wa.cell? ⟨w.heap.size,6,none⟩=some (.int .u64 c.atI):=by rw [←hvi];exact HPB.out.cell 6
 have k1:wa.cell? ⟨l,1,none⟩=some (pp B.b):=HSA.out.c 1;have k0:wa.cell? ⟨l,0,none⟩=some (pp A.b):=HSA.out.c 0;have hX:g.ask c=some ({LAns.none with flag:=g.u.has && !g.u.going},g):=by unfold LgL.ask;rw [if_neg (by omega),if_neg (by omega),if_neg (by omega),if_neg (by omega),if_neg (by omega),if_neg (by omega),if_neg (by omega),if_neg (by omega),if_neg (by omega),if_neg (by omega),if_neg (by omega),if_neg (by omega),if_neg (by omega),if_neg (by omega),if_neg (by omega),if_neg (by omega),if_neg (by omega),if_pos hkc]
 have HX:=qq hX;have b8:wa.cell? ⟨B.b,8,none⟩=some (.bool g.u.has):=HSA.out.tl.c 8;have b11:wa.cell? ⟨B.b,11,none⟩=some (.bool g.u.going):=HSA.out.tl.c 11;have UR:=qq (Upd.refl No wa);generalize g.u.has=x at*;generalize g.u.going=y at*;clear h hp ho hs hX hv hc hb hkc hk hva hvb hvf hvt hvi hN;rcases x with _|_
 ·rcases y with _|_
  all_goals
   go_enter Tryz.func31,Tryz.ntmps31;have HABW:=qq (show Blk wa ab 48 Ja.nil.cells from HAB.out.upd UR.out (fun h=>h));have a3:wa.cell? ⟨ab,3,none⟩=some (.bool false):=HABW.out.cell 3;have ya:=HABW.out.frozen;have HUF:=qq (show Upd (fun k=>k=ab) wa (wa.setCell ⟨ab,3,none⟩ (.bool false)) from ((Upd.refl (fun k=>k=ab) wa).setIn rfl 3 (.bool false)));have HFF:=qq (HUF.out.fr (N:=N) (by rintro k rfl;exact HABW.out.mutb HNB.out rfl));have HBF:=qq (show Blk (wa.setCell ⟨ab,3,none⟩ (.bool false)) ab 48 ({Ja.nil with flag:=false}:Ja).cells from (HABW.out.set_ 3 (.bool false)));go_wp2;go_ret;exact askFin (V:={Ja.nil with flag:=false}) (bb:=true) (HUA.out.no UR.out) HUF.out HBF.out (fun he=>(by rw [HX.out] at he;cases he)) fun An g1 he=>by
    rw [HX.out] at he;cases he;exact ⟨rfl,⟨rfl,rfl,rfl,rfl,rfl,rfl,Jg.nil none,SnV.Js _ _⟩,rfl⟩
 ·rcases y with _|_
  ·go_enter Tryz.func31,Tryz.ntmps31;have HABW:=qq (show Blk wa ab 48 Ja.nil.cells from HAB.out.upd UR.out (fun h=>h));have a3:wa.cell? ⟨ab,3,none⟩=some (.bool false):=HABW.out.cell 3;have ya:=HABW.out.frozen;have HUF:=qq (show Upd (fun k=>k=ab) wa (wa.setCell ⟨ab,3,none⟩ (.bool true)) from ((Upd.refl (fun k=>k=ab) wa).setIn rfl 3 (.bool true)));have HFF:=qq (HUF.out.fr (N:=N) (by rintro k rfl;exact HABW.out.mutb HNB.out rfl));have HBF:=qq (show Blk (wa.setCell ⟨ab,3,none⟩ (.bool true)) ab 48 ({Ja.nil with flag:=true}:Ja).cells from (HABW.out.set_ 3 (.bool true)));go_wp2;go_ret;exact askFin (V:={Ja.nil with flag:=true}) (bb:=true) (HUA.out.no UR.out) HUF.out HBF.out (fun he=>(by rw [HX.out] at he;cases he)) fun An g1 he=>by
    rw [HX.out] at he;cases he;exact ⟨rfl,⟨rfl,rfl,rfl,rfl,rfl,rfl,Jg.nil none,SnV.Js _ _⟩,rfl⟩
  ·go_enter Tryz.func31,Tryz.ntmps31;have HABW:=qq (show Blk wa ab 48 Ja.nil.cells from HAB.out.upd UR.out (fun h=>h));have a3:wa.cell? ⟨ab,3,none⟩=some (.bool false):=HABW.out.cell 3;have ya:=HABW.out.frozen;have HUF:=qq (show Upd (fun k=>k=ab) wa (wa.setCell ⟨ab,3,none⟩ (.bool false)) from ((Upd.refl (fun k=>k=ab) wa).setIn rfl 3 (.bool false)));have HFF:=qq (HUF.out.fr (N:=N) (by rintro k rfl;exact HABW.out.mutb HNB.out rfl));have HBF:=qq (show Blk (wa.setCell ⟨ab,3,none⟩ (.bool false)) ab 48 ({Ja.nil with flag:=false}:Ja).cells from (HABW.out.set_ 3 (.bool false)));go_wp2;go_ret;exact askFin (V:={Ja.nil with flag:=false}) (bb:=true) (HUA.out.no UR.out) HUF.out HBF.out (fun he=>(by rw [HX.out] at he;cases he)) fun An g1 he=>by
    rw [HX.out] at he;cases he;exact ⟨rfl,⟨rfl,rfl,rfl,rfl,rfl,rfl,Jg.nil none,SnV.Js _ _⟩,rfl⟩
theorem spAsk_29 (h:Ka N w l A B g) (hp:g.Pre) (ho:g.Ok) {v:Jc} {c:LCall} (hv:v.Rd N w c) (hc:c.Ok) (hfa:c.a<4611686018427387904) (hfb:c.b<4611686018427387904) (hfi:c.atI<4611686018427387904) (hb:Blk w ab 48 Ja.nil.cells) (hN:N≤ab) (hk:v.kind=29):
  Calls Tryz.prog 31 #[.pointer (some ⟨l,0,none⟩),.agg v.cells,.pointer (some ⟨ab,0,none⟩)] w fun e w'=>AskR N w ab (g.ask c) g e w':=by
 have hs:=hp.isSm;have hkc:c.kind=29:=hv.kind.symm.trans hk;have hva:=hv.a;have hvb:=hv.b;have hvf:=hv.flag;have hvt:=hv.atT;have hvi:=hv.atI;obtain ⟨wa,hwa⟩:∃W,w.alloc (.cells v.cells 45)=W:=⟨_,rfl⟩;have HUA:=qq (show Upd No w wa by rw [←hwa];exact (Upd.refl No w).alloc _);have HPB:=qq (show Blk wa w.heap.size 45 v.cells by rw [←hwa];exact Blk.new w _ _);have HSA:=qq (h.no HUA.out);have HAB:=qq (hb.upd HUA.out (fun h=>h));have HNB:=qq hN;have p0:wa.cell? ⟨w.heap.size,0,none⟩=some (.int .i64 29):=by rw [←hk];exact HPB.out.cell 0
 have p1:wa.cell? ⟨w.heap.size,1,none⟩=some (.int .u64 c.a):=by rw [←hva];exact HPB.out.cell 1
 have p2:wa.cell? ⟨w.heap.size,2,none⟩=some (.int .u64 c.b):=by rw [←hvb];exact HPB.out.cell 2
 have p4:wa.cell? ⟨w.heap.size,4,none⟩=some (.bool c.flag):=by rw [←hvf];exact HPB.out.cell 4
 have p5:wa.cell? ⟨w.heap.size,5,none⟩=some (.int .u64 c.atT):=by rw [←hvt];exact HPB.out.cell 5
 have p6:wa.cell? ⟨w.heap.size,6,none⟩=some (.int .u64 c.atI):=by rw [←hvi];exact HPB.out.cell 6
 have k1:wa.cell? ⟨l,1,none⟩=some (pp B.b):=HSA.out.c 1;have k0:wa.cell? ⟨l,0,none⟩=some (pp A.b):=HSA.out.c 0;have hX:g.ask c=some ({LAns.none with flag:=g.u.has},g):=by unfold LgL.ask;rw [if_neg (by omega),if_neg (by omega),if_neg (by omega),if_neg (by omega),if_neg (by omega),if_neg (by omega),if_neg (by omega),if_neg (by omega),if_neg (by omega),if_neg (by omega),if_neg (by omega),if_neg (by omega),if_neg (by omega),if_neg (by omega),if_neg (by omega),if_neg (by omega),if_neg (by omega),if_neg (by omega),if_pos hkc]
 have HX:=qq hX;have b8:wa.cell? ⟨B.b,8,none⟩=some (.bool g.u.has):=HSA.out.tl.c 8;have UR:=qq (Upd.refl No wa);generalize g.u.has=x at*;clear h hp ho hs hX hv hc hb hkc hk hva hvb hvf hvt hvi hN;go_enter Tryz.func31,Tryz.ntmps31;have HABW:=qq (show Blk wa ab 48 Ja.nil.cells from HAB.out.upd UR.out (fun h=>h));have a3:wa.cell? ⟨ab,3,none⟩=some (.bool false):=HABW.out.cell 3;have ya:=HABW.out.frozen;have HUF:=qq (show Upd (fun k=>k=ab) wa (wa.setCell ⟨ab,3,none⟩ (.bool x)) from ((Upd.refl (fun k=>k=ab) wa).setIn rfl 3 (.bool x)));have HFF:=qq (HUF.out.fr (N:=N) (by rintro k rfl;exact HABW.out.mutb HNB.out rfl));have HBF:=qq (show Blk (wa.setCell ⟨ab,3,none⟩ (.bool x)) ab 48 ({Ja.nil with flag:=x}:Ja).cells from (HABW.out.set_ 3 (.bool x)));go_wp2;go_ret;exact askFin (V:={Ja.nil with flag:=x}) (bb:=true) (HUA.out.no UR.out) HUF.out HBF.out (fun he=>(by rw [HX.out] at he;cases he)) fun An g1 he=>by
  rw [HX.out] at he;cases he;exact ⟨rfl,⟨rfl,rfl,rfl,rfl,rfl,rfl,Jg.nil none,SnV.Js _ _⟩,rfl⟩
theorem spAsk_30 (h:Ka N w l A B g) (hp:g.Pre) (ho:g.Ok) {v:Jc} {c:LCall} (hv:v.Rd N w c) (hc:c.Ok) (hfa:c.a<4611686018427387904) (hfb:c.b<4611686018427387904) (hfi:c.atI<4611686018427387904) (hb:Blk w ab 48 Ja.nil.cells) (hN:N≤ab) (hk:v.kind=30):
  Calls Tryz.prog 31 #[.pointer (some ⟨l,0,none⟩),.agg v.cells,.pointer (some ⟨ab,0,none⟩)] w fun e w'=>AskR N w ab (g.ask c) g e w':=by
 have hs:=hp.isSm;have hkc:c.kind=30:=hv.kind.symm.trans hk;have hva:=hv.a;have hvb:=hv.b;have hvf:=hv.flag;have hvt:=hv.atT;have hvi:=hv.atI;obtain ⟨wa,hwa⟩:∃W,w.alloc (.cells v.cells 45)=W:=⟨_,rfl⟩;have HUA:=qq (show Upd No w wa by rw [←hwa];exact (Upd.refl No w).alloc _);have HPB:=qq (show Blk wa w.heap.size 45 v.cells by rw [←hwa];exact Blk.new w _ _);have HSA:=qq (h.no HUA.out);have HAB:=qq (hb.upd HUA.out (fun h=>h));have HNB:=qq hN;have p0:wa.cell? ⟨w.heap.size,0,none⟩=some (.int .i64 30):=by rw [←hk];exact HPB.out.cell 0
 have p1:wa.cell? ⟨w.heap.size,1,none⟩=some (.int .u64 c.a):=by rw [←hva];exact HPB.out.cell 1
 have p2:wa.cell? ⟨w.heap.size,2,none⟩=some (.int .u64 c.b):=by rw [←hvb];exact HPB.out.cell 2
 have p4:wa.cell? ⟨w.heap.size,4,none⟩=some (.bool c.flag):=by rw [←hvf];exact HPB.out.cell 4
 have p5:wa.cell? ⟨w.heap.size,5,none⟩=some (.int .u64 c.atT):=by rw [←hvt];exact HPB.out.cell 5
 have p6:wa.cell? ⟨w.heap.size,6,none⟩=some (.int .u64 c.atI):=by rw [←hvi];exact HPB.out.cell 6
 have k1:wa.cell? ⟨l,1,none⟩=some (pp B.b):=HSA.out.c 1;have k0:wa.cell? ⟨l,0,none⟩=some (pp A.b):=HSA.out.c 0;have hX:g.ask c=some ({LAns.none with snap:=if g.u.has=true then g.u.snap else g.s.snap},g):=by unfold LgL.ask;rw [if_neg (by omega),if_neg (by omega),if_neg (by omega),if_neg (by omega),if_neg (by omega),if_neg (by omega),if_neg (by omega),if_neg (by omega),if_neg (by omega),if_neg (by omega),if_neg (by omega),if_neg (by omega),if_neg (by omega),if_neg (by omega),if_neg (by omega),if_neg (by omega),if_neg (by omega),if_neg (by omega),if_neg (by omega),if_pos hkc]
 have HX:=qq hX;have hnab:=HSA.out.nab HAB.out;have hBa:B.b≠ab:=fun e=>hnab (.inr (.inr e.symm));have hla:l≠ab:=fun e=>hnab (.inl e.symm);have HK1:=qq fun (W:World) (hu:Upd (fun k=>k=ab) wa W)=>hu.cell k1 hla;have b8:wa.cell? ⟨B.b,8,none⟩=some (.bool g.u.has):=HSA.out.tl.c 8;have y0:wa.cell? ⟨A.b,0,none⟩=some (.string A.v.data):=HSA.out.st.c 0;have y1:wa.cell? ⟨A.b,1,none⟩=some (.int .u64 A.v.index):=HSA.out.st.c 1;have y2:wa.cell? ⟨A.b,2,none⟩=some (.int .u64 A.v.term):=HSA.out.st.c 2;have y3:wa.cell? ⟨A.b,3,none⟩=some A.v.cf.vo.v:=HSA.out.st.c 3;have y4:wa.cell? ⟨A.b,4,none⟩=some A.v.cf.le.v:=HSA.out.st.c 4;have y5:wa.cell? ⟨A.b,5,none⟩=some A.v.cf.ou.v:=HSA.out.st.c 5;have y6:wa.cell? ⟨A.b,6,none⟩=some A.v.cf.ne.v:=HSA.out.st.c 6;have y7:wa.cell? ⟨A.b,7,none⟩=some (.bool A.v.cf.auto):=HSA.out.st.c 7;have HT:=qq HSA.out.tl.cf;have HS:=qq HSA.out.st.cf;have HBB:=qq HSA.out.tl.blk;have HZ:=qq fun (W:World) (hu:Upd (fun k=>k=ab) wa W) (j:Nat) (v:Value) (h:wa.cell? ⟨B.b,j,none⟩=some v)=>hu.cell h hBa;have HT:=qq HSA.out.tl.cf;generalize g.u.has=x at HX b8;obtain ⟨xx,hxx⟩:∃xx,xx=x:=⟨_,rfl⟩;clear h hp ho hs hX hBa hnab hxx hv hc hb hkc hk hva hvb hvf hvt hvi hN;go_enter Tryz.func31,Tryz.ntmps31
 go_wp2_with (first
  |(refine Kc (by with_reducible rfl) 39 (.tmp 332) (.tmp 330) (by with_reducible rfl) ab 8 #[.string A.v.data,.int .u64 A.v.index,.int .u64 A.v.term,A.v.cf.vo.v,A.v.cf.le.v,A.v.cf.ou.v,A.v.cf.ne.v,.bool A.v.cf.auto] (by rfl) (by rfl) 48 (Ja.nil:Ja).cells ({Ja.nil with sn:=A.v}:Ja).cells HAB.out (fun W hb=>Ja.putSn (V:=Ja.nil) A.v hb) (snLe _ A.v) (snInf A.v) (sn39 A.v) ?_
    intro w3 hb3 hu3;have HB3:=qq hb3;have HU3:=qq hu3;have b8:=HZ.out w3 HU3.out 8 _ b8;have k1:=HK1.out w3 HU3.out;have HF3:=qq (HU3.out.fr (N:=N) (by intro k hk;have hk2:=HAB.out.mutb HNB.out rfl;rw [hk];exact hk2));have z0:w3.cell? ⟨B.b,0,none⟩=some (.string B.v.data):=HZ.out w3 HU3.out 0 _ (HSA.out.tl.c 0);have z1:w3.cell? ⟨B.b,1,none⟩=some (.int .u64 B.v.index):=HZ.out w3 HU3.out 1 _ (HSA.out.tl.c 1);have z2:w3.cell? ⟨B.b,2,none⟩=some (.int .u64 B.v.term):=HZ.out w3 HU3.out 2 _ (HSA.out.tl.c 2);have z3:w3.cell? ⟨B.b,3,none⟩=some B.v.cf.vo.v:=HZ.out w3 HU3.out 3 _ (HSA.out.tl.c 3);have z4:w3.cell? ⟨B.b,4,none⟩=some B.v.cf.le.v:=HZ.out w3 HU3.out 4 _ (HSA.out.tl.c 4);have z5:w3.cell? ⟨B.b,5,none⟩=some B.v.cf.ou.v:=HZ.out w3 HU3.out 5 _ (HSA.out.tl.c 5);have z6:w3.cell? ⟨B.b,6,none⟩=some B.v.cf.ne.v:=HZ.out w3 HU3.out 6 _ (HSA.out.tl.c 6);have z7:w3.cell? ⟨B.b,7,none⟩=some (.bool B.v.cf.auto):=HZ.out w3 HU3.out 7 _ (HSA.out.tl.c 7)
    clear hb3 hu3 y0 y1 y2 y3 y4 y5 y6 y7)
  |(refine Kc (by with_reducible rfl) 39 (.tmp 351) (.tmp 349) (by with_reducible rfl) ab 8 #[.string B.v.data,.int .u64 B.v.index,.int .u64 B.v.term,B.v.cf.vo.v,B.v.cf.le.v,B.v.cf.ou.v,B.v.cf.ne.v,.bool B.v.cf.auto] (by rfl) (by rfl) 48 ({Ja.nil with sn:=A.v}:Ja).cells ({Ja.nil with sn:=B.v}:Ja).cells HB3.out (fun W hb=>Ja.putSn (V:={Ja.nil with sn:=A.v}) B.v hb) (snLe _ B.v) (snInf B.v) (sn39 B.v) ?_
    intro w4 hb4 hu4;have HB4:=qq hb4;have HU4:=qq (HU3.out.Ke hu4);have HF4:=qq (HU4.out.fr (N:=N) (by intro k hk;have hk2:=HAB.out.mutb HNB.out rfl;rw [hk];exact hk2))
    clear hb4 hu4)
  |fail)
 ·rename_i hh
  have HX:=qq (HX.out.trans (by rw [if_pos hh]));go_wp2;go_ret;exact askFin (V:={Ja.nil with sn:=B.v}) (bb:=true) HUA.out HU4.out HB4.out (fun he=>(by rw [HX.out] at he;cases he)) fun An g1 he=>by
   rw [HX.out] at he;cases he;exact ⟨rfl,⟨rfl,rfl,rfl,rfl,rfl,rfl,Jg.nil none,HT.out.fr HF4.out⟩,rfl⟩
 ·rename_i hh
  have HX:=qq (HX.out.trans (by rw [if_neg (by rw [hh];decide)]));go_wp2;go_ret;exact askFin (V:={Ja.nil with sn:=A.v}) (bb:=true) HUA.out HU3.out HB3.out (fun he=>(by rw [HX.out] at he;cases he)) fun An g1 he=>by
   rw [HX.out] at he;cases he;exact ⟨rfl,⟨rfl,rfl,rfl,rfl,rfl,rfl,Jg.nil none,HS.out.fr HF3.out⟩,rfl⟩
theorem spAsk_31 (h:Ka N w l A B g) (hp:g.Pre) (ho:g.Ok) {v:Jc} {c:LCall} (hv:v.Rd N w c) (hc:c.Ok) (hfa:c.a<4611686018427387904) (hfb:c.b<4611686018427387904) (hfi:c.atI<4611686018427387904) (hb:Blk w ab 48 Ja.nil.cells) (hN:N≤ab) (hk:v.kind=31):
  Calls Tryz.prog 31 #[.pointer (some ⟨l,0,none⟩),.agg v.cells,.pointer (some ⟨ab,0,none⟩)] w fun e w'=>AskR N w ab (g.ask c) g e w':=by
 have hs:=hp.isSm;have hkc:c.kind=31:=hv.kind.symm.trans hk;have hva:=hv.a;have hvb:=hv.b;have hvf:=hv.flag;have hvt:=hv.atT;have hvi:=hv.atI;obtain ⟨wa,hwa⟩:∃W,w.alloc (.cells v.cells 45)=W:=⟨_,rfl⟩;have HUA:=qq (show Upd No w wa by rw [←hwa];exact (Upd.refl No w).alloc _);have HPB:=qq (show Blk wa w.heap.size 45 v.cells by rw [←hwa];exact Blk.new w _ _);have HSA:=qq (h.no HUA.out);have HAB:=qq (hb.upd HUA.out (fun h=>h));have HNB:=qq hN;have p0:wa.cell? ⟨w.heap.size,0,none⟩=some (.int .i64 31):=by rw [←hk];exact HPB.out.cell 0
 have p1:wa.cell? ⟨w.heap.size,1,none⟩=some (.int .u64 c.a):=by rw [←hva];exact HPB.out.cell 1
 have p2:wa.cell? ⟨w.heap.size,2,none⟩=some (.int .u64 c.b):=by rw [←hvb];exact HPB.out.cell 2
 have p4:wa.cell? ⟨w.heap.size,4,none⟩=some (.bool c.flag):=by rw [←hvf];exact HPB.out.cell 4
 have p5:wa.cell? ⟨w.heap.size,5,none⟩=some (.int .u64 c.atT):=by rw [←hvt];exact HPB.out.cell 5
 have p6:wa.cell? ⟨w.heap.size,6,none⟩=some (.int .u64 c.atI):=by rw [←hvi];exact HPB.out.cell 6
 have k1:wa.cell? ⟨l,1,none⟩=some (pp B.b):=HSA.out.c 1;have k0:wa.cell? ⟨l,0,none⟩=some (pp A.b):=HSA.out.c 0;have hX:g.ask c=((g.rangeB g.first (g.last+1)).map fun e=>({LAns.none with es:=e},g)):=by unfold LgL.ask;rw [if_neg (by omega),if_neg (by omega),if_neg (by omega),if_neg (by omega),if_neg (by omega),if_neg (by omega),if_neg (by omega),if_neg (by omega),if_neg (by omega),if_neg (by omega),if_neg (by omega),if_neg (by omega),if_neg (by omega),if_neg (by omega),if_neg (by omega),if_neg (by omega),if_neg (by omega),if_neg (by omega),if_neg (by omega),if_neg (by omega),if_pos hkc]
 have HX:=qq hX;have hlb:=hs.last_bd;have hln:=hs.last_nn;have HF1:=qq (spFirst HSA.out hs.s hs.u);have HF2:=qq (spLast HSA.out hs.s hs.u).toU;have HF3:=qq fun (W:World) (hu:Upd No wa W)=>spRange (lo:=g.first) (hi:=g.last+1) (HSA.out.no hu) hs ho;generalize g.rangeB g.first (g.last+1)=Y at*;generalize g.first=f at*;generalize g.last=la at*;clear h hp ho hs hX hv hc hb hkc hk hva hvb hvf hvt hvi hN;go_enter Tryz.func31,Tryz.ntmps31;go_wp2_with fail
 refine HF1.out.mono ?_;rintro r w1 ⟨rfl,rfl⟩;go_wp2_with fail
 refine HF2.out.mono ?_;rintro r w3 ⟨rfl,u3⟩;have U3:=qq u3;clear u3;go_wp2_with fail
 refine (HF3.out _ U3.out).mono ?_;intro r w2 hr;obtain ⟨t,bb,rfl,hu2,h1,h2⟩:=hr;have H2:=qq (And.intro h1 h2);have U2:=qq (U3.out.no hu2);clear hu2 h1 h2;have HABW:=qq (show Blk w2 ab 48 Ja.nil.cells from HAB.out.upd U2.out (fun h=>h));have a6:w2.cell? ⟨ab,6,none⟩=some (.slice none 0 0):=HABW.out.cell 6;have ya:=HABW.out.frozen;have HUF:=qq (show Upd (fun k=>k=ab) w2 (w2.setCell ⟨ab,6,none⟩ t.v) from ((Upd.refl (fun k=>k=ab) w2).setIn rfl 6 t.v));have HFF:=qq (HUF.out.fr (N:=N) (by rintro k rfl;exact HABW.out.mutb HNB.out rfl));have HBF:=qq (show Blk (w2.setCell ⟨ab,6,none⟩ t.v) ab 48 ({Ja.nil with es:=t}:Ja).cells from (HABW.out.set_ 6 t.v));go_wp2;go_ret;refine askFin (V:={Ja.nil with es:=t}) (bb:=bb) (HUA.out.no U2.out) HUF.out HBF.out (fun he=>?_) fun An g1 he=>?_
 ·rw [HX.out] at he;rcases Y with _|es
  ·exact H2.out.1 rfl
  ·cases he
 ·rw [HX.out] at he;rcases Y with _|es
  ·cases he
  ·cases he;exact ⟨(H2.out.2 _ rfl).1,⟨rfl,rfl,rfl,rfl,rfl,rfl,(H2.out.2 _ rfl).2.fr HFF.out,SnV.Js _ _⟩,rfl⟩
theorem spAsk_d (h:Ka N w l A B g) (hp:g.Pre) (ho:g.Ok) {v:Jc} {c:LCall} (hv:v.Rd N w c) (hb:Blk w ab 48 Ja.nil.cells) (hk:∀j:Int,1≤j→j≤31→j≠13→j≠14→j≠18→j≠19→j≠23→j≠24→j≠25→j≠26→j≠1→j≠2→v.kind≠j):
  Calls Tryz.prog 31 #[.pointer (some ⟨l,0,none⟩),.agg v.cells,.pointer (some ⟨ab,0,none⟩)] w fun e w'=>AskR N w ab (g.ask c) g e w':=by
 have hkc:=hv.kind;obtain ⟨wa,hwa⟩:∃W,w.alloc (.cells v.cells 45)=W:=⟨_,rfl⟩;have HUA:=qq (show Upd No w wa by rw [←hwa];exact (Upd.refl No w).alloc _);have HPB:=qq (show Blk wa w.heap.size 45 v.cells by rw [←hwa];exact Blk.new w _ _);have HAB:=qq (hb.upd HUA.out (fun h=>h));have p0:wa.cell? ⟨w.heap.size,0,none⟩=some (.int .i64 v.kind):=HPB.out.cell 0;have n3:v.kind≠3:=hk 3 (by decide) (by decide) (by decide) (by decide) (by decide) (by decide) (by decide) (by decide) (by decide) (by decide) (by decide) (by decide);have q3:(v.kind==3)=false:=beq_eq_false_iff_ne.2 n3;have n4:v.kind≠4:=hk 4 (by decide) (by decide) (by decide) (by decide) (by decide) (by decide) (by decide) (by decide) (by decide) (by decide) (by decide) (by decide);have q4:(v.kind==4)=false:=beq_eq_false_iff_ne.2 n4;have n5:v.kind≠5:=hk 5 (by decide) (by decide) (by decide) (by decide) (by decide) (by decide) (by decide) (by decide) (by decide) (by decide) (by decide) (by decide);have q5:(v.kind==5)=false:=beq_eq_false_iff_ne.2 n5;have n6:v.kind≠6:=hk 6 (by decide) (by decide) (by decide) (by decide) (by decide) (by decide) (by decide) (by decide) (by decide) (by decide) (by decide) (by decide);have q6:(v.kind==6)=false:=beq_eq_false_iff_ne.2 n6;have n7:v.kind≠7:=hk 7 (by decide) (by decide) (by decide) (by decide) (by decide) (by decide) (by decide) (by decide) (by decide) (by decide) (by decide) (by decide);have q7:(v.kind==7)=false:=beq_eq_false_iff_ne.2 n7
 have n8:v.kind≠8:=hk 8 (by decide) (by decide) (by decide) (by decide) (by decide) (by decide) (by decide) (by decide) (by decide) (by decide) (by decide) (by decide);have q8:(v.kind==8)=false:=beq_eq_false_iff_ne.2 n8;have n9:v.kind≠9:=hk 9 (by decide) (by decide) (by decide) (by decide) (by decide) (by decide) (by decide) (by decide) (by decide) (by decide) (by decide) (by decide);have q9:(v.kind==9)=false:=beq_eq_false_iff_ne.2 n9;have n10:v.kind≠10:=hk 10 (by decide) (by decide) (by decide) (by decide) (by decide) (by decide) (by decide) (by decide) (by decide) (by decide) (by decide) (by decide);have q10:(v.kind==10)=false:=beq_eq_false_iff_ne.2 n10;have n11:v.kind≠11:=hk 11 (by decide) (by decide) (by decide) (by decide) (by decide) (by decide) (by decide) (by decide) (by decide) (by decide) (by decide) (by decide);have q11:(v.kind==11)=false:=beq_eq_false_iff_ne.2 n11;have n12:v.kind≠12:=hk 12 (by decide) (by decide) (by decide) (by decide) (by decide) (by decide) (by decide) (by decide) (by decide) (by decide) (by decide) (by decide);have q12:(v.kind==12)=false:=beq_eq_false_iff_ne.2 n12;have n15:v.kind≠15:=hk 15 (by decide) (by decide) (by decide) (by decide) (by decide) (by decide) (by decide) (by decide) (by decide) (by decide) (by decide) (by decide);have q15:(v.kind==15)=false:=beq_eq_false_iff_ne.2 n15
 have n16:v.kind≠16:=hk 16 (by decide) (by decide) (by decide) (by decide) (by decide) (by decide) (by decide) (by decide) (by decide) (by decide) (by decide) (by decide);have q16:(v.kind==16)=false:=beq_eq_false_iff_ne.2 n16;have n17:v.kind≠17:=hk 17 (by decide) (by decide) (by decide) (by decide) (by decide) (by decide) (by decide) (by decide) (by decide) (by decide) (by decide) (by decide);have q17:(v.kind==17)=false:=beq_eq_false_iff_ne.2 n17;have n20:v.kind≠20:=hk 20 (by decide) (by decide) (by decide) (by decide) (by decide) (by decide) (by decide) (by decide) (by decide) (by decide) (by decide) (by decide);have q20:(v.kind==20)=false:=beq_eq_false_iff_ne.2 n20;have n21:v.kind≠21:=hk 21 (by decide) (by decide) (by decide) (by decide) (by decide) (by decide) (by decide) (by decide) (by decide) (by decide) (by decide) (by decide);have q21:(v.kind==21)=false:=beq_eq_false_iff_ne.2 n21;have n22:v.kind≠22:=hk 22 (by decide) (by decide) (by decide) (by decide) (by decide) (by decide) (by decide) (by decide) (by decide) (by decide) (by decide) (by decide);have q22:(v.kind==22)=false:=beq_eq_false_iff_ne.2 n22;have n27:v.kind≠27:=hk 27 (by decide) (by decide) (by decide) (by decide) (by decide) (by decide) (by decide) (by decide) (by decide) (by decide) (by decide) (by decide);have q27:(v.kind==27)=false:=beq_eq_false_iff_ne.2 n27
 have n28:v.kind≠28:=hk 28 (by decide) (by decide) (by decide) (by decide) (by decide) (by decide) (by decide) (by decide) (by decide) (by decide) (by decide) (by decide);have q28:(v.kind==28)=false:=beq_eq_false_iff_ne.2 n28;have n29:v.kind≠29:=hk 29 (by decide) (by decide) (by decide) (by decide) (by decide) (by decide) (by decide) (by decide) (by decide) (by decide) (by decide) (by decide);have q29:(v.kind==29)=false:=beq_eq_false_iff_ne.2 n29;have n30:v.kind≠30:=hk 30 (by decide) (by decide) (by decide) (by decide) (by decide) (by decide) (by decide) (by decide) (by decide) (by decide) (by decide) (by decide);have q30:(v.kind==30)=false:=beq_eq_false_iff_ne.2 n30;have n31:v.kind≠31:=hk 31 (by decide) (by decide) (by decide) (by decide) (by decide) (by decide) (by decide) (by decide) (by decide) (by decide) (by decide) (by decide);have q31:(v.kind==31)=false:=beq_eq_false_iff_ne.2 n31
 have hX:g.ask c=none:=by unfold LgL.ask;rw [if_neg (fun e=>n3 (hkc.trans e)),if_neg (fun e=>n4 (hkc.trans e)),if_neg (fun e=>n5 (hkc.trans e)),if_neg (fun e=>n6 (hkc.trans e)),if_neg (fun e=>n7 (hkc.trans e)),if_neg (fun e=>n8 (hkc.trans e)),if_neg (fun e=>n9 (hkc.trans e)),if_neg (fun e=>n10 (hkc.trans e)),if_neg (fun e=>n11 (hkc.trans e)),if_neg (fun e=>n12 (hkc.trans e)),if_neg (fun e=>n15 (hkc.trans e)),if_neg (fun e=>n16 (hkc.trans e)),if_neg (fun e=>n17 (hkc.trans e)),if_neg (fun e=>n20 (hkc.trans e)),if_neg (fun e=>n21 (hkc.trans e)),if_neg (fun e=>n22 (hkc.trans e)),if_neg (fun e=>n27 (hkc.trans e)),if_neg (fun e=>n28 (hkc.trans e)),if_neg (fun e=>n29 (hkc.trans e)),if_neg (fun e=>n30 (hkc.trans e)),if_neg (fun e=>n31 (hkc.trans e))]
 have HX:=qq hX;clear h hp ho hX hv hb hkc hk n3 n4 n5 n6 n7 n8 n9 n10 n11 n12 n15 n16 n17 n20 n21 n22 n27 n28 n29 n30 n31;go_enter Tryz.func31,Tryz.ntmps31;go_wp2;go_ret;exact askFin (V:=Ja.nil) (bb:=false) HUA.out (Upd.refl _ _) HAB.out (fun _=>rfl) fun An g1 he=>by rw [HX.out] at he;cases he
theorem spAsk (h:Ka N w l A B g) (hp:g.Pre) (ho:g.Ok) {v:Jc} {c:LCall} (hv:v.Rd N w c) (hc:c.Ok) (hfa:c.a<4611686018427387904) (hfb:c.b<4611686018427387904) (hfi:c.atI<4611686018427387904) (hb:Blk w ab 48 Ja.nil.cells) (hN:N≤ab):
  Calls Tryz.prog 31 #[.pointer (some ⟨l,0,none⟩),.agg v.cells,.pointer (some ⟨ab,0,none⟩)] w fun e w'=>AskR N w ab (g.ask c) g e w':=by
 by_cases k3:v.kind=3
 ·exact spAsk_3 h hp ho hv hc hfa hfb hfi hb hN k3
 by_cases k4:v.kind=4
 ·exact spAsk_4 h hp ho hv hc hfa hfb hfi hb hN k4
 by_cases k5:v.kind=5
 ·exact spAsk_5 h hp ho hv hc hfa hfb hfi hb hN k5
 by_cases k6:v.kind=6
 ·exact spAsk_6 h hp ho hv hc hfa hfb hfi hb hN k6
 by_cases k7:v.kind=7
 ·exact spAsk_7 h hp ho hv hc hfa hfb hfi hb hN k7
 by_cases k8:v.kind=8
 ·exact spAsk_8 h hp ho hv hc hfa hfb hfi hb hN k8
 by_cases k9:v.kind=9
 ·exact spAsk_9 h hp ho hv hc hfa hfb hfi hb hN k9
 by_cases k10:v.kind=10
 ·exact spAsk_10 h hp ho hv hc hfa hfb hfi hb hN k10
 by_cases k11:v.kind=11
 ·exact spAsk_11 h hp ho hv hc hfa hfb hfi hb hN k11
 by_cases k12:v.kind=12
 ·exact spAsk_12 h hp ho hv hc hfa hfb hfi hb hN k12
 by_cases k15:v.kind=15
 ·exact spAsk_15 h hp ho hv hc hfa hfb hfi hb hN k15
 by_cases k16:v.kind=16
 ·exact spAsk_16 h hp ho hv hc hfa hfb hfi hb hN k16
 by_cases k17:v.kind=17
 ·exact spAsk_17 h hp ho hv hc hfa hfb hfi hb hN k17
 by_cases k20:v.kind=20
 ·exact spAsk_20 h hp ho hv hc hfa hfb hfi hb hN k20
 by_cases k21:v.kind=21
 ·exact spAsk_21 h hp ho hv hc hfa hfb hfi hb hN k21
 by_cases k22:v.kind=22
 ·exact spAsk_22 h hp ho hv hc hfa hfb hfi hb hN k22
 by_cases k27:v.kind=27
 ·exact spAsk_27 h hp ho hv hc hfa hfb hfi hb hN k27
 by_cases k28:v.kind=28
 ·exact spAsk_28 h hp ho hv hc hfa hfb hfi hb hN k28
 by_cases k29:v.kind=29
 ·exact spAsk_29 h hp ho hv hc hfa hfb hfi hb hN k29
 by_cases k30:v.kind=30
 ·exact spAsk_30 h hp ho hv hc hfa hfb hfi hb hN k30
 by_cases k31:v.kind=31
 ·exact spAsk_31 h hp ho hv hc hfa hfb hfi hb hN k31
 exact spAsk_d h hp ho hv hb (fun j _ _ _ _ _ _ _ _ _ _ _ _ e=>by omega)
end
end Go.Proofs.YtmagnkjodjmojaaGreat
