/- A part of the proof of FnLog: laws and walks, with their conditions written at each. -/
import Derived.Deep.CutBlock
import Derived.Deep.DeepCutAuto
import Derived.StillTailTactics
import Derived.Test.YtmagnkjodjmojaaGreatQ22
import Derived.Test.YtmagnkjodjmojaaGreatQ39
import Derived.Test.YtmagnkjodjmojaaGreatQ40
set_option maxRecDepth 20000
set_option maxHeartbeats 4000000
set_option linter.all false
namespace Go.Proofs.YtmagnkjodjmojaaGreat
open Go.RowKit
structure CfV.Raw (N:Nat) (w:World) (v:CfV) (c:Conf):Prop where
 vo:Jz N w v.vo c.vo
 le:Jz N w v.le c.le
 ou:Jz N w v.ou c.ou
 ne:Jz N w v.ne c.ne
 auto:v.auto=c.auto
structure SnV.Raw (N:Nat) (w:World) (v:SnV) (s:Snap):Prop where
 data:v.data=s.data
 index:v.index=s.index
 term:v.term=s.term
 cf:v.cf.Raw N w s.cf
structure Jd.Raw (N:Nat) (w:World) (v:Jd) (c:SCall):Prop where
 kind:v.kind=c.kind
 a:v.a=c.a
 b:v.b=c.b
 cc:v.c=c.c
 es:Jh N w v.es c.es
 sn:v.sn.Raw N w c.snap
structure Jc.Raw (N:Nat) (w:World) (v:Jc) (c:LCall):Prop where
 kind:v.kind=c.kind
 a:v.a=c.a
 b:v.b=c.b
 cc:v.c=c.c
 flag:v.flag=c.flag
 atT:v.atT=c.atT
 atI:v.atI=c.atI
 pT:v.pT=c.pT
 pI:v.pI=c.pI
 es:Jh N w v.es c.es
 sn:v.sn.Raw N w c.snap
 st:v.st.Raw N w c.st
section
variable {N:Nat} {w w':World}
theorem CfV.Raw.fr {v:CfV} {c:Conf} (h:v.Raw N w c) (hf:Fr N w w'):v.Raw N w' c:=⟨h.vo.fr hf,h.le.fr hf,h.ou.fr hf,h.ne.fr hf,h.auto⟩
theorem SnV.Raw.fr {v:SnV} {c:Snap} (h:v.Raw N w c) (hf:Fr N w w'):v.Raw N w' c:=⟨h.data,h.index,h.term,h.cf.fr hf⟩
theorem Jd.Raw.fr {v:Jd} {c:SCall} (h:v.Raw N w c) (hf:Fr N w w'):v.Raw N w' c:=⟨h.kind,h.a,h.b,h.cc,h.es.fr hf,h.sn.fr hf⟩
theorem Jc.Raw.fr {v:Jc} {c:LCall} (h:v.Raw N w c) (hf:Fr N w w'):v.Raw N w' c:=⟨h.kind,h.a,h.b,h.cc,h.flag,h.atT,h.atI,h.pT,h.pI,h.es.fr hf,h.sn.fr hf,h.st.fr hf⟩
end
def RawSC (N:Nat) (w:World) (sl:SlV) (V:Nat→Jd) (cs:List SCall):Prop:=
 Jg N w 16 sl cs.length (fun j i=>(V j).cells.getD i undef)∧∀j,j<cs.length→(V j).Raw N w (cs.getD j default)
def RawLC (N:Nat) (w:World) (sl:SlV) (V:Nat→Jc) (cs:List LCall):Prop:=
 Jg N w 34 sl cs.length (fun j i=>(V j).cells.getD i undef)∧∀j,j<cs.length→(V j).Raw N w (cs.getD j default)
theorem RawSC.fr {N:Nat} {w w':World} {sl:SlV} {V:Nat→Jd} {cs:List SCall} (h:RawSC N w sl V cs) (hf:Fr N w w'):RawSC N w' sl V cs:=⟨h.1.fr hf,fun j hj=>(h.2 j hj).fr hf⟩
theorem RawLC.fr {N:Nat} {w w':World} {sl:SlV} {V:Nat→Jc} {cs:List LCall} (h:RawLC N w sl V cs) (hf:Fr N w w'):RawLC N w' sl V cs:=⟨h.1.fr hf,fun j hj=>(h.2 j hj).fr hf⟩
theorem Jd.one (v:Jd):v.cells.all (·.oneCell')=true:=by simp [Jd.cells,Value.oneCell']
def FitR (w:World) (e:Ending) (w':World):Prop:=∃b:Bool,e=.returned (.bool b)∧Upd No w w'
section
variable {N:Nat} {w w':World}
theorem fit118 (w:World) {t i k:Int} {d:ByteArray}:Calls Tryz.prog 118 #[.agg #[.int .u64 t,.int .u64 i,.int .i64 k,.string d]] w (FitR w):=by
 have U0:=qq ((Upd.refl No w).alloc (.cells #[.int .u64 t,.int .u64 i,.int .i64 k,.string d] 104));go_enter Tryz.func118,Tryz.ntmps118;go_wp2;all_goals (go_ret;exact ⟨_,rfl,U0.out⟩)
theorem fit119 (w:World) {c:CfV}:Calls Tryz.prog 119 #[.agg #[.slice c.vo.A c.vo.n c.vo.c,.slice c.le.A c.le.n c.le.c,.slice c.ou.A c.ou.n c.ou.c,.slice c.ne.A c.ne.n c.ne.c,.bool c.auto]] w (FitR w):=by
 have U0:=qq ((Upd.refl No w).alloc (.cells #[c.vo.v,c.le.v,c.ou.v,c.ne.v,.bool c.auto] 37));go_enter Tryz.func119,Tryz.ntmps119;go_wp2;all_goals (go_ret;exact ⟨_,rfl,U0.out⟩)
theorem fit48 (w:World) {v:SnV}:Calls Tryz.prog 48 #[.agg v.cells] w (FitR w):=by
 have U0:=qq ((Upd.refl No w).alloc (.cells v.cells 39));have H9:=qq fun (W:World)=>fit119 W (c:=v.cf);unfold SnV.cells at U0 ⊢;go_enter Tryz.func48,Tryz.ntmps48;go_wp2_with fail
 ·go_ret;exact ⟨_,rfl,U0.out⟩
 ·refine (H9.out _).mono ?_;rintro r w2 ⟨b,rfl,u2⟩;have U2:=qq (U0.out.no u2);clear u2;rcases b with _|_
  ·go_wp2;go_ret;exact ⟨_,rfl,U2.out⟩
  ·go_wp2;go_ret;exact ⟨_,rfl,U2.out⟩
theorem fit47 {sl:SlV} {es:List Ent} (h:Jh N w sl es):Calls Tryz.prog 47 #[.slice sl.A sl.n sl.c] w (FitR w):=by
 have HH:=qq fun (W:World) (hu:Upd No w W)=>(show Jg N W 4 sl _ _ from Jg.fr h hu.fr0);have HC:=qq fun (W:World) (e:Ent)=>(show Calls Tryz.prog 118 #[.agg #[.int .u64 e.term,.int .u64 e.index,.int .i64 e.kind,.string e.data]] W (FitR W) from fit118 W);clear h;go_enter Tryz.func47,Tryz.ntmps47;go_wp2_with fail
 ·go_ret;exact ⟨_,rfl,Upd.refl No w⟩
 ·go_loopw [4,10] (fun _ i wr=>∃k:Nat,k≤sl.n∧i=.int .i64 (k:Nat)∧Hid (Upd No w wr)) (fun _ i _=>sl.n - (intOf i).toNat)
  case atStart=>exact ⟨0,Nat.zero_le _,rfl,qq (Upd.refl No w)⟩
  case round=>
   obtain ⟨k,hk,rfl,hu⟩:=hrel;by_cases hlt:k<sl.n
   ·obtain ⟨b,o,hA,_,hc⟩:=(HH.out wr hu.out).at_ (by omega);have hc:=fun i hi=>hc k i hlt hi;generalize es.getD k default=e at*;have HR:=qq (show wr.rangeAt b (o+k*4) (#[.int .u64 e.term,.int .u64 e.index,.int .i64 e.kind,.string e.data]:Array Value).toList from range_of (cs:=#[.int .u64 e.term,.int .u64 e.index,.int .i64 e.kind,.string e.data]) (by rfl) (fun i hi=>(hc i hi).trans (by rcases i with _|_|_|_|i<;>first|rfl|omega)));have HI:=qq (show (Tryz.prog.info? 104).map (·.size)=some (#[.int .u64 e.term,.int .u64 e.index,.int .i64 e.kind,.string e.data]:Array Value).toList.length from (by kernel_rfl:(Tryz.prog.info? 104).map (·.size)=some 4));rw [hA];clear hc
    go_wp2_with (first
     |(with_reducible refine load_midA rfl 104 (.tmp 12) rfl b (o+k*4) rfl #[.int .u64 e.term,.int .u64 e.index,.int .i64 e.kind,.string e.data] _ HR.out Tryz.underlying104 rfl HI.out ?_)
     |fail)
    refine (HC.out _ _).mono ?_;rintro r w2 ⟨bb,rfl,u2⟩;have U2:=qq ((hu.out.alloc _).no u2);clear u2;rcases bb with _|_
    ·go_wp2;go_ret;exact ⟨_,rfl,U2.out⟩
    ·go_wp2;exact ⟨⟨k+1,by omega,by simp,U2⟩,by simp [intOf];omega⟩
   ·obtain rfl:k=sl.n:=by omega
    go_wp2;go_ret;exact ⟨_,rfl,hu.out⟩
theorem fit14 {v:Jd} {es:List Ent} (h:Jh N w v.es es):Calls Tryz.prog 14 #[.agg #[.int .i64 v.kind,.int .u64 v.a,.int .u64 v.b,.int .u64 v.c,.slice v.es.A v.es.n v.es.c,.string v.sn.data,.int .u64 v.sn.index,.int .u64 v.sn.term,.slice v.sn.cf.vo.A v.sn.cf.vo.n v.sn.cf.vo.c,.slice v.sn.cf.le.A v.sn.cf.le.n v.sn.cf.le.c,.slice v.sn.cf.ou.A v.sn.cf.ou.n v.sn.cf.ou.c,.slice v.sn.cf.ne.A v.sn.cf.ne.n v.sn.cf.ne.c,.bool v.sn.cf.auto,.int .u64 v.x,.int .u64 v.y,.int .u64 v.z]] w (FitR w):=by
 have U0:=qq ((Upd.refl No w).alloc (.cells #[.int .i64 v.kind,.int .u64 v.a,.int .u64 v.b,.int .u64 v.c,v.es.v,.string v.sn.data,.int .u64 v.sn.index,.int .u64 v.sn.term,v.sn.cf.vo.v,v.sn.cf.le.v,v.sn.cf.ou.v,v.sn.cf.ne.v,.bool v.sn.cf.auto,.int .u64 v.x,.int .u64 v.y,.int .u64 v.z] 43));have H0:=qq fun (W:World) (hu:Upd No w W)=>(show Calls Tryz.prog 47 #[v.es.v] W (FitR W) from fit47 (h.fr hu.fr0));have H1:=qq fun (W:World) (hu:Upd No w W)=>(show Calls Tryz.prog 48 #[.agg #[.string v.sn.data,.int .u64 v.sn.index,.int .u64 v.sn.term,v.sn.cf.vo.v,v.sn.cf.le.v,v.sn.cf.ou.v,v.sn.cf.ne.v,.bool v.sn.cf.auto]] W (FitR W) from fit48 W (v:=v.sn));have P0:=qq (Blk.new w 43 #[.int .i64 v.kind,.int .u64 v.a,.int .u64 v.b,.int .u64 v.c,v.es.v,.string v.sn.data,.int .u64 v.sn.index,.int .u64 v.sn.term,v.sn.cf.vo.v,v.sn.cf.le.v,v.sn.cf.ou.v,v.sn.cf.ne.v,.bool v.sn.cf.auto,.int .u64 v.x,.int .u64 v.y,.int .u64 v.z]);clear h;go_enter Tryz.func14,Tryz.ntmps14;go_wp2_with fail
 refine (H0.out _ U0.out).mono ?_;rintro r w2 ⟨b,rfl,u⟩;have V0:=qq (U0.out.no u);have P1:=qq (P0.out.upd u (fun h=>h));clear u;have c4:w2.cell? ⟨w.heap.size,4,none⟩=some v.es.v:=P1.out.cell 4;have c5:w2.cell? ⟨w.heap.size,5,none⟩=some (.string v.sn.data):=P1.out.cell 5;have c6:w2.cell? ⟨w.heap.size,6,none⟩=some (.int .u64 v.sn.index):=P1.out.cell 6;have c7:w2.cell? ⟨w.heap.size,7,none⟩=some (.int .u64 v.sn.term):=P1.out.cell 7;have c8:w2.cell? ⟨w.heap.size,8,none⟩=some v.sn.cf.vo.v:=P1.out.cell 8;have c9:w2.cell? ⟨w.heap.size,9,none⟩=some v.sn.cf.le.v:=P1.out.cell 9;have c10:w2.cell? ⟨w.heap.size,10,none⟩=some v.sn.cf.ou.v:=P1.out.cell 10;have c11:w2.cell? ⟨w.heap.size,11,none⟩=some v.sn.cf.ne.v:=P1.out.cell 11;have c12:w2.cell? ⟨w.heap.size,12,none⟩=some (.bool v.sn.cf.auto):=P1.out.cell 12;rcases b with _|_
 ·go_wp2;go_ret;exact ⟨_,rfl,V0.out⟩
 go_wp2_with fail
 refine (H1.out _ V0.out).mono ?_;rintro r w3 ⟨b,rfl,u⟩;have V1:=qq (V0.out.no u);have P2:=qq (P1.out.upd u (fun h=>h));clear u;rcases b with _|_
 ·go_wp2;go_ret;exact ⟨_,rfl,V1.out⟩
 go_wp2_with fail
 go_ret;exact ⟨_,rfl,V1.out⟩
theorem fit15 {v:Jc} {es es2:List Ent} (h:Jh N w v.es es∧Jh N w v.st.es es2):Calls Tryz.prog 15 #[.agg #[.int .i64 v.kind,.int .u64 v.a,.int .u64 v.b,.int .u64 v.c,.bool v.flag,.int .u64 v.atT,.int .u64 v.atI,.int .u64 v.pT,.int .u64 v.pI,.slice v.es.A v.es.n v.es.c,.string v.sn.data,.int .u64 v.sn.index,.int .u64 v.sn.term,.slice v.sn.cf.vo.A v.sn.cf.vo.n v.sn.cf.vo.c,.slice v.sn.cf.le.A v.sn.cf.le.n v.sn.cf.le.c,.slice v.sn.cf.ou.A v.sn.cf.ou.n v.sn.cf.ou.c,.slice v.sn.cf.ne.A v.sn.cf.ne.n v.sn.cf.ne.c,.bool v.sn.cf.auto,.int .i64 v.st.kind,.int .u64 v.st.a,.int .u64 v.st.b,.int .u64 v.st.c,.slice v.st.es.A v.st.es.n v.st.es.c,.string v.st.sn.data,.int .u64 v.st.sn.index,.int .u64 v.st.sn.term,.slice v.st.sn.cf.vo.A v.st.sn.cf.vo.n v.st.sn.cf.vo.c,.slice v.st.sn.cf.le.A v.st.sn.cf.le.n v.st.sn.cf.le.c,.slice v.st.sn.cf.ou.A v.st.sn.cf.ou.n v.st.sn.cf.ou.c,.slice v.st.sn.cf.ne.A v.st.sn.cf.ne.n v.st.sn.cf.ne.c,.bool v.st.sn.cf.auto,.int .u64 v.st.x,.int .u64 v.st.y,.int .u64 v.st.z]] w (FitR w):=by
 have U0:=qq ((Upd.refl No w).alloc (.cells #[.int .i64 v.kind,.int .u64 v.a,.int .u64 v.b,.int .u64 v.c,.bool v.flag,.int .u64 v.atT,.int .u64 v.atI,.int .u64 v.pT,.int .u64 v.pI,v.es.v,.string v.sn.data,.int .u64 v.sn.index,.int .u64 v.sn.term,v.sn.cf.vo.v,v.sn.cf.le.v,v.sn.cf.ou.v,v.sn.cf.ne.v,.bool v.sn.cf.auto,.int .i64 v.st.kind,.int .u64 v.st.a,.int .u64 v.st.b,.int .u64 v.st.c,v.st.es.v,.string v.st.sn.data,.int .u64 v.st.sn.index,.int .u64 v.st.sn.term,v.st.sn.cf.vo.v,v.st.sn.cf.le.v,v.st.sn.cf.ou.v,v.st.sn.cf.ne.v,.bool v.st.sn.cf.auto,.int .u64 v.st.x,.int .u64 v.st.y,.int .u64 v.st.z] 45));have H0:=qq fun (W:World) (hu:Upd No w W)=>(show Calls Tryz.prog 47 #[v.es.v] W (FitR W) from fit47 (h.1.fr hu.fr0));have H1:=qq fun (W:World) (hu:Upd No w W)=>(show Calls Tryz.prog 48 #[.agg #[.string v.sn.data,.int .u64 v.sn.index,.int .u64 v.sn.term,v.sn.cf.vo.v,v.sn.cf.le.v,v.sn.cf.ou.v,v.sn.cf.ne.v,.bool v.sn.cf.auto]] W (FitR W) from fit48 W (v:=v.sn));have H2:=qq fun (W:World) (hu:Upd No w W)=>(show Calls Tryz.prog 14 #[.agg #[.int .i64 v.st.kind,.int .u64 v.st.a,.int .u64 v.st.b,.int .u64 v.st.c,v.st.es.v,.string v.st.sn.data,.int .u64 v.st.sn.index,.int .u64 v.st.sn.term,v.st.sn.cf.vo.v,v.st.sn.cf.le.v,v.st.sn.cf.ou.v,v.st.sn.cf.ne.v,.bool v.st.sn.cf.auto,.int .u64 v.st.x,.int .u64 v.st.y,.int .u64 v.st.z]] W (FitR W) from fit14 (v:=v.st) (h.2.fr hu.fr0))
 have P0:=qq (Blk.new w 45 #[.int .i64 v.kind,.int .u64 v.a,.int .u64 v.b,.int .u64 v.c,.bool v.flag,.int .u64 v.atT,.int .u64 v.atI,.int .u64 v.pT,.int .u64 v.pI,v.es.v,.string v.sn.data,.int .u64 v.sn.index,.int .u64 v.sn.term,v.sn.cf.vo.v,v.sn.cf.le.v,v.sn.cf.ou.v,v.sn.cf.ne.v,.bool v.sn.cf.auto,.int .i64 v.st.kind,.int .u64 v.st.a,.int .u64 v.st.b,.int .u64 v.st.c,v.st.es.v,.string v.st.sn.data,.int .u64 v.st.sn.index,.int .u64 v.st.sn.term,v.st.sn.cf.vo.v,v.st.sn.cf.le.v,v.st.sn.cf.ou.v,v.st.sn.cf.ne.v,.bool v.st.sn.cf.auto,.int .u64 v.st.x,.int .u64 v.st.y,.int .u64 v.st.z]);clear h;go_enter Tryz.func15,Tryz.ntmps15;go_wp2_with fail
 refine (H0.out _ U0.out).mono ?_;rintro r w2 ⟨b,rfl,u⟩;have V0:=qq (U0.out.no u);have P1:=qq (P0.out.upd u (fun h=>h));clear u;have c9:w2.cell? ⟨w.heap.size,9,none⟩=some v.es.v:=P1.out.cell 9;have c10:w2.cell? ⟨w.heap.size,10,none⟩=some (.string v.sn.data):=P1.out.cell 10;have c11:w2.cell? ⟨w.heap.size,11,none⟩=some (.int .u64 v.sn.index):=P1.out.cell 11;have c12:w2.cell? ⟨w.heap.size,12,none⟩=some (.int .u64 v.sn.term):=P1.out.cell 12;have c13:w2.cell? ⟨w.heap.size,13,none⟩=some v.sn.cf.vo.v:=P1.out.cell 13;have c14:w2.cell? ⟨w.heap.size,14,none⟩=some v.sn.cf.le.v:=P1.out.cell 14;have c15:w2.cell? ⟨w.heap.size,15,none⟩=some v.sn.cf.ou.v:=P1.out.cell 15;have c16:w2.cell? ⟨w.heap.size,16,none⟩=some v.sn.cf.ne.v:=P1.out.cell 16;have c17:w2.cell? ⟨w.heap.size,17,none⟩=some (.bool v.sn.cf.auto):=P1.out.cell 17;have c18:w2.cell? ⟨w.heap.size,18,none⟩=some (.int .i64 v.st.kind):=P1.out.cell 18;have c19:w2.cell? ⟨w.heap.size,19,none⟩=some (.int .u64 v.st.a):=P1.out.cell 19;have c20:w2.cell? ⟨w.heap.size,20,none⟩=some (.int .u64 v.st.b):=P1.out.cell 20;have c21:w2.cell? ⟨w.heap.size,21,none⟩=some (.int .u64 v.st.c):=P1.out.cell 21;have c22:w2.cell? ⟨w.heap.size,22,none⟩=some v.st.es.v:=P1.out.cell 22;have c23:w2.cell? ⟨w.heap.size,23,none⟩=some (.string v.st.sn.data):=P1.out.cell 23;have c24:w2.cell? ⟨w.heap.size,24,none⟩=some (.int .u64 v.st.sn.index):=P1.out.cell 24;have c25:w2.cell? ⟨w.heap.size,25,none⟩=some (.int .u64 v.st.sn.term):=P1.out.cell 25
 have c26:w2.cell? ⟨w.heap.size,26,none⟩=some v.st.sn.cf.vo.v:=P1.out.cell 26;have c27:w2.cell? ⟨w.heap.size,27,none⟩=some v.st.sn.cf.le.v:=P1.out.cell 27;have c28:w2.cell? ⟨w.heap.size,28,none⟩=some v.st.sn.cf.ou.v:=P1.out.cell 28;have c29:w2.cell? ⟨w.heap.size,29,none⟩=some v.st.sn.cf.ne.v:=P1.out.cell 29;have c30:w2.cell? ⟨w.heap.size,30,none⟩=some (.bool v.st.sn.cf.auto):=P1.out.cell 30;have c31:w2.cell? ⟨w.heap.size,31,none⟩=some (.int .u64 v.st.x):=P1.out.cell 31;have c32:w2.cell? ⟨w.heap.size,32,none⟩=some (.int .u64 v.st.y):=P1.out.cell 32;have c33:w2.cell? ⟨w.heap.size,33,none⟩=some (.int .u64 v.st.z):=P1.out.cell 33;rcases b with _|_
 ·go_wp2;go_ret;exact ⟨_,rfl,V0.out⟩
 go_wp2_with fail
 refine (H1.out _ V0.out).mono ?_;rintro r w3 ⟨b,rfl,u⟩;have V1:=qq (V0.out.no u);have P2:=qq (P1.out.upd u (fun h=>h));clear u;have c9:w3.cell? ⟨w.heap.size,9,none⟩=some v.es.v:=P2.out.cell 9;have c10:w3.cell? ⟨w.heap.size,10,none⟩=some (.string v.sn.data):=P2.out.cell 10;have c11:w3.cell? ⟨w.heap.size,11,none⟩=some (.int .u64 v.sn.index):=P2.out.cell 11;have c12:w3.cell? ⟨w.heap.size,12,none⟩=some (.int .u64 v.sn.term):=P2.out.cell 12;have c13:w3.cell? ⟨w.heap.size,13,none⟩=some v.sn.cf.vo.v:=P2.out.cell 13;have c14:w3.cell? ⟨w.heap.size,14,none⟩=some v.sn.cf.le.v:=P2.out.cell 14;have c15:w3.cell? ⟨w.heap.size,15,none⟩=some v.sn.cf.ou.v:=P2.out.cell 15;have c16:w3.cell? ⟨w.heap.size,16,none⟩=some v.sn.cf.ne.v:=P2.out.cell 16;have c17:w3.cell? ⟨w.heap.size,17,none⟩=some (.bool v.sn.cf.auto):=P2.out.cell 17;have c18:w3.cell? ⟨w.heap.size,18,none⟩=some (.int .i64 v.st.kind):=P2.out.cell 18;have c19:w3.cell? ⟨w.heap.size,19,none⟩=some (.int .u64 v.st.a):=P2.out.cell 19;have c20:w3.cell? ⟨w.heap.size,20,none⟩=some (.int .u64 v.st.b):=P2.out.cell 20;have c21:w3.cell? ⟨w.heap.size,21,none⟩=some (.int .u64 v.st.c):=P2.out.cell 21;have c22:w3.cell? ⟨w.heap.size,22,none⟩=some v.st.es.v:=P2.out.cell 22;have c23:w3.cell? ⟨w.heap.size,23,none⟩=some (.string v.st.sn.data):=P2.out.cell 23;have c24:w3.cell? ⟨w.heap.size,24,none⟩=some (.int .u64 v.st.sn.index):=P2.out.cell 24;have c25:w3.cell? ⟨w.heap.size,25,none⟩=some (.int .u64 v.st.sn.term):=P2.out.cell 25
 have c26:w3.cell? ⟨w.heap.size,26,none⟩=some v.st.sn.cf.vo.v:=P2.out.cell 26;have c27:w3.cell? ⟨w.heap.size,27,none⟩=some v.st.sn.cf.le.v:=P2.out.cell 27;have c28:w3.cell? ⟨w.heap.size,28,none⟩=some v.st.sn.cf.ou.v:=P2.out.cell 28;have c29:w3.cell? ⟨w.heap.size,29,none⟩=some v.st.sn.cf.ne.v:=P2.out.cell 29;have c30:w3.cell? ⟨w.heap.size,30,none⟩=some (.bool v.st.sn.cf.auto):=P2.out.cell 30;have c31:w3.cell? ⟨w.heap.size,31,none⟩=some (.int .u64 v.st.x):=P2.out.cell 31;have c32:w3.cell? ⟨w.heap.size,32,none⟩=some (.int .u64 v.st.y):=P2.out.cell 32;have c33:w3.cell? ⟨w.heap.size,33,none⟩=some (.int .u64 v.st.z):=P2.out.cell 33;rcases b with _|_
 ·go_wp2;go_ret;exact ⟨_,rfl,V1.out⟩
 go_wp2_with fail
 refine (H2.out _ V1.out).mono ?_;rintro r w4 ⟨b,rfl,u⟩;have V2:=qq (V1.out.no u);have P3:=qq (P2.out.upd u (fun h=>h));clear u;rcases b with _|_
 ·go_wp2;go_ret;exact ⟨_,rfl,V2.out⟩
 go_wp2_with fail
 go_ret;exact ⟨_,rfl,V2.out⟩
theorem fit4 {sl:SlV} {V:Nat→Jd} {cs:List SCall} (h:RawSC N w sl V cs):Calls Tryz.prog 4 #[.slice sl.A sl.n sl.c] w (FitR w):=by
 have HH:=qq fun (W:World) (hu:Upd No w W)=>(show Jg N W 16 sl _ _ from Jg.fr h.1 hu.fr0);have HC:=qq fun (W:World) (v:Jd) (es:List Ent) (hv:Jh N W v.es es)=>(show Calls Tryz.prog 14 #[.agg v.cells] W (FitR W) from fit14 hv);have HV:=qq fun (W:World) (hu:Upd No w W)=>(h.fr hu.fr0).2;have HL:=qq h.1.len;clear h;go_enter Tryz.func4,Tryz.ntmps4;go_wp2_with fail
 ·go_ret;exact ⟨_,rfl,Upd.refl No w⟩
 ·go_loopw [4,10] (fun _ i wr=>∃k:Nat,k≤sl.n∧i=.int .i64 (k:Nat)∧Hid (Upd No w wr)) (fun _ i _=>sl.n - (intOf i).toNat)
  case atStart=>exact ⟨0,Nat.zero_le _,rfl,qq (Upd.refl No w)⟩
  case round=>
   obtain ⟨k,hk,rfl,hu⟩:=hrel;by_cases hlt:k<sl.n
   ·obtain ⟨b,o,hA,_,hc⟩:=(HH.out wr hu.out).at_ (by omega);have hc:=fun i hi=>hc k i hlt hi;have hv:=(HV.out wr hu.out k (by have:=HL.out;omega)).es;generalize V k=v at*;generalize (cs.getD k default).es=es at*;have HR:=qq (show wr.rangeAt b (o+k*16) (v.cells:Array Value).toList from range_of (cs:=v.cells) (by rfl) (fun i hi=>(hc i hi).trans rfl));have HI:=qq (show (Tryz.prog.info? 43).map (·.size)=some (v.cells:Array Value).toList.length from (by kernel_rfl:(Tryz.prog.info? 43).map (·.size)=some 16));rw [hA];clear hc;have HBZ:=qq (show Blk (wr.alloc (.cells Z43 43)) wr.heap.size 43 Z43 from Blk.new _ _ _);have HU0:=qq (show Upd No wr (wr.alloc (.cells Z43 43)) from (Upd.refl No wr).alloc _);have H16:=qq (show (Z43:Array Value).size=v.cells.size from rfl);have HI2:=qq v.inf;have HON:=qq v.one;obtain ⟨wz,hwz⟩:∃W,W=wr.alloc (.cells Z43 43):=⟨_,rfl⟩;rw [←hwz] at HBZ HU0;have HWZ:=qq hwz;clear hwz
    go_wp2_with (first
     |(with_reducible refine load_midA rfl 43 (.tmp 12) rfl b (o+k*16) rfl v.cells _ HR.out Tryz.underlying43 rfl HI.out ?_)
     |(rw [←HWZ.out]
       with_reducible refine Jk rfl 43 (.tmp 4) (.tmp 13) rfl wr.heap.size v.cells rfl rfl 43 Z43 HBZ.out HI2.out H16.out HON.out ?_;intro w9 hb9 hu9;have HB9:=qq hb9;have HU9:=qq (show Upd No wr w9 from HU0.out.trans hu9 (by rintro k rfl;exact .inr (Nat.le_refl _)))
       clear hb9 hu9)
     |(with_reducible refine Jm rfl 43 (.tmp 4) rfl wr.heap.size v.cells rfl 43 _ HB9.out Tryz.underlying43 rfl HI2.out ?_)
     |fail)
    refine (HC.out w9 v es (hv.fr HU9.out.fr0)).mono ?_;rintro r w2 ⟨bb,rfl,u2⟩;have U2:=qq (hu.out.no (HU9.out.no u2));clear u2;rcases bb with _|_
    ·go_wp2;go_ret;exact ⟨_,rfl,U2.out⟩
    ·go_wp2;exact ⟨⟨k+1,by omega,by simp,U2⟩,by simp [intOf];omega⟩
   ·obtain rfl:k=sl.n:=by omega
    go_wp2;go_ret;exact ⟨_,rfl,hu.out⟩
theorem fit5 {sl:SlV} {V:Nat→Jc} {cs:List LCall} (h:RawLC N w sl V cs):Calls Tryz.prog 5 #[.slice sl.A sl.n sl.c] w (FitR w):=by
 have HH:=qq fun (W:World) (hu:Upd No w W)=>(show Jg N W 34 sl _ _ from Jg.fr h.1 hu.fr0);have HC:=qq fun (W:World) (v:Jc) (es es2:List Ent) (hv:Jh N W v.es es∧Jh N W v.st.es es2)=>(show Calls Tryz.prog 15 #[.agg v.cells] W (FitR W) from fit15 hv);have HV:=qq fun (W:World) (hu:Upd No w W)=>(h.fr hu.fr0).2;have HL:=qq h.1.len;clear h;go_enter Tryz.func5,Tryz.ntmps5;go_wp2_with fail
 ·go_ret;exact ⟨_,rfl,Upd.refl No w⟩
 ·go_loopw [4,10] (fun _ i wr=>∃k:Nat,k≤sl.n∧i=.int .i64 (k:Nat)∧Hid (Upd No w wr)) (fun _ i _=>sl.n - (intOf i).toNat)
  case atStart=>exact ⟨0,Nat.zero_le _,rfl,qq (Upd.refl No w)⟩
  case round=>
   obtain ⟨k,hk,rfl,hu⟩:=hrel;by_cases hlt:k<sl.n
   ·obtain ⟨b,o,hA,_,hc⟩:=(HH.out wr hu.out).at_ (by omega);have hc:=fun i hi=>hc k i hlt hi;have hv:=(HV.out wr hu.out k (by have:=HL.out;omega)).es;have hv2:=(HV.out wr hu.out k (by have:=HL.out;omega)).st.es;generalize V k=v at*;generalize (cs.getD k default).es=es at*;generalize (cs.getD k default).st.es=es2 at*;have HR:=qq (show wr.rangeAt b (o+k*34) (v.cells:Array Value).toList from range_of (cs:=v.cells) (by rfl) (fun i hi=>(hc i hi).trans rfl));have HI:=qq (show (Tryz.prog.info? 45).map (·.size)=some (v.cells:Array Value).toList.length from (by kernel_rfl:(Tryz.prog.info? 45).map (·.size)=some 34));rw [hA];clear hc;have HBZ:=qq (show Blk (wr.alloc (.cells Z45 45)) wr.heap.size 45 Z45 from Blk.new _ _ _);have HU0:=qq (show Upd No wr (wr.alloc (.cells Z45 45)) from (Upd.refl No wr).alloc _);have H34:=qq (show (Z45:Array Value).size=v.cells.size from rfl);have HI2:=qq v.inf;have HON:=qq v.one;obtain ⟨wz,hwz⟩:∃W,W=wr.alloc (.cells Z45 45):=⟨_,rfl⟩;rw [←hwz] at HBZ HU0;have HWZ:=qq hwz;clear hwz
    go_wp2_with (first
     |(with_reducible refine load_midA rfl 45 (.tmp 12) rfl b (o+k*34) rfl v.cells _ HR.out Tryz.underlying45 rfl HI.out ?_)
     |(rw [←HWZ.out]
       with_reducible refine Jk rfl 45 (.tmp 4) (.tmp 13) rfl wr.heap.size v.cells rfl rfl 45 Z45 HBZ.out HI2.out H34.out HON.out ?_;intro w9 hb9 hu9;have HB9:=qq hb9;have HU9:=qq (show Upd No wr w9 from HU0.out.trans hu9 (by rintro k rfl;exact .inr (Nat.le_refl _)))
       clear hb9 hu9)
     |(with_reducible refine Jm rfl 45 (.tmp 4) rfl wr.heap.size v.cells rfl 45 _ HB9.out Tryz.underlying45 rfl HI2.out ?_)
     |fail)
    refine (HC.out w9 v es es2 ⟨hv.fr HU9.out.fr0,hv2.fr HU9.out.fr0⟩).mono ?_;rintro r w2 ⟨bb,rfl,u2⟩;have U2:=qq (hu.out.no (HU9.out.no u2));clear u2;rcases bb with _|_
    ·go_wp2;go_ret;exact ⟨_,rfl,U2.out⟩
    ·go_wp2;exact ⟨⟨k+1,by omega,by simp,U2⟩,by simp [intOf];omega⟩
   ·obtain rfl:k=sl.n:=by omega
    go_wp2;go_ret;exact ⟨_,rfl,hu.out⟩
end
end Go.Proofs.YtmagnkjodjmojaaGreat
