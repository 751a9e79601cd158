/- A part of the proof of FnLog: laws and walks, with their conditions written at each. -/
import Derived.Deep.CutBlock
import Derived.Deep.DeepCutAuto
import Derived.StillTailTactics
import Derived.Test.YtmagnkjodjmojaaGreatQ21
import Derived.Test.YtmagnkjodjmojaaGreatQ24
import Derived.Test.YtmagnkjodjmojaaGreatQ25
import Derived.Test.YtmagnkjodjmojaaGreatQ35
import Derived.Test.YtmagnkjodjmojaaGreatQ36
set_option maxRecDepth 20000
set_option maxHeartbeats 4000000
set_option linter.all false
namespace Go.Proofs.YtmagnkjodjmojaaGreat
open Go.RowKit
def DoR (N:Nat) (w:World) (l:Nat) (A:StK) (B:TlK) (X:Option (LAns×LgL)) (e:Ending) (w':World):Prop:=
 ∃(V:Ja) (bb:Bool) (A':StK) (B':TlK) (g':LgL),e=.returned (.tuple #[.agg V.cells,.bool bb])∧A'.b=A.b∧B'.b=B.b∧Ka N w' l A' B' g'∧Upd (spS l A B) w w'∧(X=none→bb=false)∧(∀An g1,X=some (An,g1)→bb=true∧(∃U:Ja,V=U.beh g1∧U.Rd N w' An)∧g'=g1)
structure DoS (N:Nat) (wa:World) (l:Nat) (A:StK) (B:TlK) (ab:Nat) (V:Ja) (A':StK) (B':TlK) (g':LgL) (W:World):Prop where
 lg:Ka N W l A' B' g'
 an:Blk W ab 48 V.cells
 up:Upd (fun k=>spS l A B k∨k=ab) wa W
 hA:A'.b=A.b
 hB:B'.b=B.b
def DoC (N:Nat) (wa:World) (l:Nat) (A:StK) (B:TlK) (ab:Nat) (X:Option (LAns×LgL)) (v:Value) (W:World):Prop:=
 ∃(V:Ja) (bb:Bool) (A':StK) (B':TlK) (g':LgL),v=.bool bb∧DoS N wa l A B ab V A' B' g' W∧(X=none→bb=false)∧(∀An g1,X=some (An,g1)→bb=true∧V.Rd N W An∧g'=g1)
def DoX (N:Nat) (wa:World) (l:Nat) (A:StK) (B:TlK) (ab:Nat) (g:LgL) (X:Option (SAns×StL)) (v w:Value) (W:World):Prop:=
 ∃(x:Nat) (bb:Bool) (V:Jb) (A2:StK) (s2:StL),v=.pointer (some ⟨x,0,none⟩)∧w=.bool bb∧x≠ab∧Blk W x 69 V.cells∧DoS N wa l A B ab Ja.nil A2 B {g with s:=s2} W∧(X=none→bb=false)∧(∀An s',X=some (An,s')→bb=true∧V.Rd N W An∧s'=s2)
section
variable {N:Nat} {w w' w0 wa W W':World} {S:Nat→Prop} {A A' A2:StK} {s:StL} {B B' B2:TlK} {u:TlL} {l p ab:Nat} {g g' g2:LgL} {V:Ja}
theorem DoS.start (h:Ka N wa l A B g) (hb:Blk wa ab 48 V.cells):DoS N wa l A B ab V A B g wa:=⟨h,hb,Upd.refl _ _,rfl,rfl⟩
theorem DoS.step (h:DoS N wa l A B ab V A' B' g' W) (hs:Ka N W' l A2 B2 g2) (hu:Upd (spS l A' B') W W') (hA:A2.b=A'.b) (hB:B2.b=B'.b):DoS N wa l A B ab V A2 B2 g2 W':=
 ⟨hs,h.an.upd hu (h.lg.nab h.an),h.up.Ke (hu.mono fun k hk=>.inl (by unfold spS at*;rw [h.hA,h.hB] at hk;exact hk)),hA.trans h.hA,hB.trans h.hB⟩
theorem DoS.no (h:DoS N wa l A B ab V A' B' g' W) (hu:Upd No W W'):DoS N wa l A B ab V A' B' g' W':=h.step (h.lg.no hu) hu.ofNo rfl rfl
theorem DoS.set (h:DoS N wa l A B ab V A' B' g' W) (hN:N≤ab) (j:Nat) (x:Value) (V':Ja) (hV:V.cells.setIfInBounds j x=V'.cells):DoS N wa l A B ab V' A' B' g' (W.setCell ⟨ab,j,none⟩ x):=
 have hu:Upd (fun k=>k=ab) W (W.setCell ⟨ab,j,none⟩ x):=(Upd.refl (fun k=>k=ab) W).setIn rfl j x
 ⟨h.lg.at_ab h.an hN hu,hV ▸h.an.set_ j x,h.up.Ke (hu.mono fun _ hk=>.inr hk),h.hA,h.hB⟩
theorem DoS.fin {X:Option (LAns×LgL)} {bb:Bool} (h:DoS N wa l A B ab V A' B' g' W) (h1:X=none→bb=false) (h2:∀An g1,X=some (An,g1)→bb=true∧V.Rd N W An∧g'=g1):DoC N wa l A B ab X (.bool bb) W:=
 ⟨V,bb,A',B',g',rfl,h,h1,h2⟩
theorem DoS.rest (h:DoS N wa l A B ab V A' B' g' W) (hlt:∀k,spS l A B k→k<w.heap.size) (hab:ab=w.heap.size+1+1) {cs:Array Value} (hr:Blk wa (w.heap.size+1) 48 cs):Blk W (w.heap.size+1) 48 cs:=
 hr.upd h.up (by
  intro hk;rcases hk with hk|hk
  ·have:=hlt _ hk;omega
  ·omega)
theorem Jc.inf (v:Jc):(Tryz.prog.info? 45).map (·.size)=some v.cells.size:=(by kernel_rfl:(Tryz.prog.info? 45).map (·.size)=some 34)
theorem SnV.one8 (T:SnV):T.cells.all (·.oneCell')=true:=sn39 T
theorem SnV.inf8 (T:SnV):(Tryz.prog.info? 39).map (·.size)=some T.cells.size:=inf39
theorem Jc.sn_range (v:Jc):∀j,j<8→v.cells[10+j]? =v.sn.cells.toList[j]?:=by
 intro j hj;match j,hj with
 |0,_|1,_|2,_|3,_|4,_|5,_|6,_|7,_=>rfl
 |_+8,h=>exact absurd h (by omega)
theorem Jb.sn_range (V:Jb):∀j,j<8→V.cells[3+j]? =V.sn.cells.toList[j]?:=by
 intro j hj;match j,hj with
 |0,_|1,_|2,_|3,_|4,_|5,_|6,_|7,_=>rfl
 |_+8,h=>exact absurd h (by omega)
theorem Jc.at_range (v:Jc):∀j,j<2→v.cells[5+j]? =(#[.int .u64 v.atT,.int .u64 v.atI]:Array Value).toList[j]?:=by
 intro j hj;match j,hj with
 |0,_|1,_=>rfl
 |_+2,h=>exact absurd h (by omega)
theorem still_load_mid {P:Program} {ops:Array Oper} {o:Oper} {rest:List Oper} {a:Act} {Q:Act→Prop} (hw:Region.wanted o (yielded ops a.tmps)=true) (ty:TypeId) (x:Operand) (ho:o.op=.load ty x)
  (b off:Nat) (hx:a.eval x=.pointer (some ⟨b,off,none⟩)) (cs:Array Value) (d:TypeDesc) (hS:W.rangeAt b off cs.toList) (hu:P.underlying ty=some d) (hd:d.isRow=true) (hi:(P.info? ty).map (·.size)=some cs.size)
  (h:wpStill P ops W Q rest (a.put o.dst (.agg cs))):wpStill P ops W Q (o::rest) a:=by
 refine wpStill_step fun K hK=>?_;rw [if_pos hw];unfold Oper.still execOp;simp only [ho,hx,Instr.loadAt,Instr.sureAddr,Sem.run_bind,Sem.run_pure,Result.andThen_ok,run_loadVar_mid W b off ty cs.toList d hS hu hd (by rw [hi];rfl),Oper.stillUpon_value];exact hK _ h
theorem Kd {P:Program} {ops:Array Oper} {S:World→Prop} {op:Oper} {a:Act} (hw:Region.wanted op (yielded ops a.tmps)=true) (ty:TypeId) (x:Operand) (ho:op.op=.load ty x)
  (b o:Nat) (hx:a.eval x=.pointer (some ⟨b,o,none⟩)) (cs:Array Value) (d:TypeDesc) (hS:∀w,S w→w.rangeAt b o cs.toList)
  (hu:P.underlying ty=some d) (hd:d.isRow=true) (hi:(P.info? ty).map (·.size)=some cs.size):YieldsIf P ops S op (.agg cs) a:=
 yieldsIf_load_mid hw ty x ho b o hx cs.toList d hS hu hd (by rw [hi];rfl)
theorem step_store_mid {P:Program} {ops:Array Oper} {o:Oper} {a:Act} {K:Act→World→Prop} {Q:Exit→Act→World→Prop} {E:Prop} (hgd:o.guard=none) (ty:TypeId) (x y:Operand) (ho:o.op=.store ty x y)
  (b off:Nat) (cells:Array Value) (hx:a.eval x=.pointer (some ⟨b,off,none⟩)) (hy:a.eval y=.agg cells) (t:TypeId) (old new:Array Value) (hB:Blk W b t old) (hnew:∀W,Blk W b t old→Blk (W.setCells b off cells.toList) b t new)
  (hle:off+cells.size≤old.size) (hi:(P.info? ty).map (·.size)=some cells.size) (h1:cells.all (·.oneCell')=true)
  (h:∀w',Blk w' b t new→Upd (fun k=>k=b) W w'→K (a.put o.dst undef) w'):if Region.wanted o (yielded ops a.tmps)=true then Oper.wp P o a W K Q else E:=by
 have hw:Region.wanted o (yielded ops a.tmps)=true:=by simp [Region.wanted,hgd]
 rw [if_pos hw];exact wp_store_mid ty x y ho b off cells hx hy (fun j hj=>⟨by rw [hB.cell,Array.getElem?_eq_getElem (by omega)];rfl,hB.frozen _⟩) hi h1 (h _ (hnew W hB) (upd_setCells _ _ _))
theorem DoS.putBlk {V':Ja} (h:DoS N wa l A B ab V A' B' g' W) (hN:N≤ab) (hu:Upd (fun k=>k=ab) W W') (hb:Blk W' ab 48 V'.cells):DoS N wa l A B ab V' A' B' g' W':=
 ⟨h.lg.at_ab h.an hN hu,hb,h.up.Ke (hu.mono fun _ hk=>.inr hk),h.hA,h.hB⟩
theorem Jc.st_range (v:Jc):∀j,j<16→v.cells[18+j]? =v.st.cells.toList[j]?:=Go.Proofs.YtmagnkjodjmojaaGreat.st_range v
theorem DoS.far (h:DoS N wa l A B ab V A' B' g' W) {x:Nat} (hu:Upd (fun k=>k=x) W W') (hx:x≠ab) (hf:Fr N W W') (hn:¬spS l A B x) (hw:wa.heap.size≤x):DoS N wa l A B ab V A' B' g' W':=
 ⟨h.lg.upd hu hf (fun k hk e=>by subst e;exact hn (by unfold spS at*;rw [h.hA,h.hB] at hk;exact hk)),h.an.upd hu (fun e=>hx e.symm),h.up.trans hu (by rintro k rfl;exact .inr hw),h.hA,h.hB⟩
theorem doFin {X:Option (LAns×LgL)} {wN w9:World} {bb:Bool} {cs:Array Value} (hlt:∀k,spS l A B k→k<w.heap.size) (hNw:N≤w.heap.size) (hu:Upd (fun k=>spS l A B k∨k=w.heap.size+1+1) w wN) (hA:A'.b=A.b) (hB:B'.b=B.b) (hS:Ka N wN l A' B' g')
  (hr:Blk wN (w.heap.size+1) 48 cs) (hu9:Upd (fun k=>k=w.heap.size+1) wN w9) (h1:X=none→bb=false) (h2:∀An g1,X=some (An,g1)→bb=true∧(∃U:Ja,V=U.beh g1∧U.Rd N wN An)∧g'=g1):
  DoR N w l A B X (.returned (.tuple #[.agg V.cells,.bool bb])) w9:=by
 have hf9:=hu9.fr (N:=N) (by rintro k rfl;exact hr.mutb (by omega) rfl);refine ⟨V,bb,A',B',g',rfl,hA,hB,hS.upd hu9 hf9 ?_,?_,h1,fun An s' he=>?_⟩
 ·intro k hk e;have:=hlt k (by unfold spS at*;rw [hA,hB] at hk;exact hk);omega
 ·refine ((Upd.refl (spS l A B) w).trans hu ?_).trans hu9 ?_
  ·rintro k (hk|rfl)
   ·exact .inl hk
   ·exact .inr (by omega)
  ·rintro k rfl;exact .inr (Nat.le_succ _)
 ·obtain ⟨h3,⟨U,h4,h5⟩,h6⟩:=h2 An s' he;exact ⟨h3,⟨U,h4,h5.fr hf9⟩,h6⟩
set_option maxHeartbeats 16000000 in
theorem spDo (h:Ka N w l A B g) (hp:g.Pre) (ho:g.Ok) (hln:g.u.es.length+60≤20000) {v:Jc} {c:LCall} (hv:v.Rd N w c) (hc:c.Ok):
  Calls Tryz.prog 9 #[.pointer (some ⟨l,0,none⟩),.agg v.cells] w fun e w'=>DoR N w l A B (LDo g c) e w':=by
 have hs:=hp.isSm;have hva:=hv.a;have hvb:=hv.b;have hvi:=hv.atI;have hNw:N≤w.heap.size:=Nat.le_trans h.N (Nat.le_of_lt h.blk.lt)
 have HLT:=qq (show ∀k,spS l A B k→k<w.heap.size from fun k hk=>by
  rcases hk with rfl|rfl|rfl
  ·exact h.blk.lt
  ·exact h.st.blk.lt
  ·exact h.tl.blk.lt)
 have HNW:=qq hNw;have HNB:=qq (show N≤(w.heap.size+1+1) by omega);obtain ⟨wa,hwa⟩:∃W,((w.alloc (.cells v.cells 45)).alloc (.cells Z48 48)).alloc (.cells Z48 48)=W:=⟨_,rfl⟩;have HUA:=qq (show Upd No w wa by rw [←hwa];exact (((Upd.refl No w).alloc _).alloc _).alloc _);have HPB:=qq (show Blk wa w.heap.size 45 v.cells by rw [←hwa];exact ((Blk.new w _ _).alloc _).alloc _);have HRB:=qq (show Blk wa (w.heap.size+1) 48 Ja.nil.cells by rw [←hwa];exact (Blk.new_ (by simp)).alloc _);have HAB:=qq (show Blk wa (w.heap.size+1+1) 48 Ja.nil.cells by rw [←hwa];exact Blk.new_ (by simp));have HSA:=qq (h.no HUA.out);have HVA:=qq (hv.fr HUA.out.fr0);have HC:=qq hc;have HP:=qq hp;have HO:=qq ho;have HS:=qq hs;have HD:=qq (DoS.start (V:=Ja.nil) HSA.out HAB.out);have p1:wa.cell? ⟨w.heap.size,1,none⟩=some (.int .u64 c.a):=by rw [←hva];exact HPB.out.cell 1
 have p2:wa.cell? ⟨w.heap.size,2,none⟩=some (.int .u64 c.b):=by rw [←hvb];exact HPB.out.cell 2
 have p6:wa.cell? ⟨w.heap.size,6,none⟩=some (.int .u64 c.atI):=by rw [←hvi];exact HPB.out.cell 6
 have hkc:=hv.kind;obtain ⟨kd,hkd⟩:∃k,k=v.kind:=⟨_,rfl⟩;have p0:wa.cell? ⟨w.heap.size,0,none⟩=some (.int .i64 kd):=by rw [hkd];exact HPB.out.cell 0
 have HK:=qq (show c.kind=kd from (hkd.trans hkc).symm);have k1:wa.cell? ⟨l,1,none⟩=some (pp B.b):=HSA.out.c 1;have k0:wa.cell? ⟨l,0,none⟩=some (pp A.b):=HSA.out.c 0;have HLN:=qq hln;clear h hp ho hs hv hc hva hvb hvi hln hNw hkc hkd;by_cases hfar:farI≤c.a∨farI≤c.b∨farI≤c.atI
 ·have HX:=qq (show LDo g c=none by unfold LDo;rw [if_pos hfar]);have HSZ:=qq (show Ja.nil.cells.size=Ja.nil.cells.size from rfl);have HIN:=qq Ja.nil.inf;have HON:=qq Ja.nil.one;have HFN:=qq fun (n:Nat)=>qq (show Upd (fun k=>spS l A B k∨k=(w.heap.size+1+1)) w (wa.drewN n) from (HUA.out.drewN n).ofNo);unfold farI at hfar;by_cases ha:c.a<4611686018427387904
  ·by_cases hb:c.b<4611686018427387904
   ·have hi:¬c.atI<4611686018427387904:=by omega
    clear hfar;go_enter Tryz.func9,Tryz.ntmps9
    go_wp2_with (first
     |(with_reducible refine Jm rfl 48 (.tmp 6) rfl (w.heap.size+1+1) Ja.nil.cells rfl 48 _ HAB.out Tryz.underlying48 rfl HIN.out ?_)
     |(with_reducible refine Jk rfl 48 (.tmp 4) (.tmp 26) rfl (w.heap.size+1) Ja.nil.cells rfl rfl 48 Ja.nil.cells HRB.out HIN.out HSZ.out HON.out ?_
       intro w9 hb9 hu9;have HB9:=qq hb9;have HU9:=qq hu9
       clear hb9 hu9)
     |fail)
    refine Jw rfl (w.heap.size+1) 48 Ja.nil.cells _ rfl HB9.out Tryz.underlying48 rfl HIN.out rfl ?_;exact doFin HLT.out HNW.out HUA.out.ofNo rfl rfl HSA.out HRB.out HU9.out (fun _=>rfl) fun An g1 he=>by rw [HX.out] at he;cases he
   ·clear hfar;go_enter Tryz.func9,Tryz.ntmps9
    go_wp2_with (first
     |(with_reducible refine Jm rfl 48 (.tmp 6) rfl (w.heap.size+1+1) Ja.nil.cells rfl 48 _ HAB.out Tryz.underlying48 rfl HIN.out ?_)
     |(with_reducible refine Jk rfl 48 (.tmp 4) (.tmp 26) rfl (w.heap.size+1) Ja.nil.cells rfl rfl 48 Ja.nil.cells HRB.out HIN.out HSZ.out HON.out ?_
       intro w9 hb9 hu9;have HB9:=qq hb9;have HU9:=qq hu9
       clear hb9 hu9)
     |fail)
    refine Jw rfl (w.heap.size+1) 48 Ja.nil.cells _ rfl HB9.out Tryz.underlying48 rfl HIN.out rfl ?_;exact doFin HLT.out HNW.out HUA.out.ofNo rfl rfl HSA.out HRB.out HU9.out (fun _=>rfl) fun An g1 he=>by rw [HX.out] at he;cases he
  ·clear hfar;go_enter Tryz.func9,Tryz.ntmps9
   go_wp2_with (first
    |(with_reducible refine Jm rfl 48 (.tmp 6) rfl (w.heap.size+1+1) Ja.nil.cells rfl 48 _ HAB.out Tryz.underlying48 rfl HIN.out ?_)
    |(with_reducible refine Jk rfl 48 (.tmp 4) (.tmp 26) rfl (w.heap.size+1) Ja.nil.cells rfl rfl 48 Ja.nil.cells HRB.out HIN.out HSZ.out HON.out ?_
      intro w9 hb9 hu9;have HB9:=qq hb9;have HU9:=qq hu9
      clear hb9 hu9)
    |fail)
   refine Jw rfl (w.heap.size+1) 48 Ja.nil.cells _ rfl HB9.out Tryz.underlying48 rfl HIN.out rfl ?_;exact doFin HLT.out HNW.out HUA.out.ofNo rfl rfl HSA.out HRB.out HU9.out (fun _=>rfl) fun An g1 he=>by rw [HX.out] at he;cases he
 ·have hfa:c.a<4611686018427387904:=by unfold farI at hfar;omega
  have hfb:c.b<4611686018427387904:=by unfold farI at hfar;omega
  have hfi:c.atI<4611686018427387904:=by unfold farI at hfar;omega
  have HF:=qq hfar;clear hfar;go_enter Tryz.func9,Tryz.ntmps9;go_upto_block 0 with fail
  clear p0;go_cut [7] (fun s7 W=>DoC N wa l A B (w.heap.size+1+1) (LDo g c) s7 W)
  case first=>
   by_cases n1:kd=1
   ·subst n1;have HX:=qq (show LDo g c=((g.append c.es).map fun g'=>({LAns.none with n:=g'.last},g')) by have:=HF.out;unfold LDo;rw [if_neg this,if_pos HK.out]);have p9:wa.cell? ⟨w.heap.size,9,none⟩=some v.es.v:=HPB.out.cell 9;have HG:=qq (spLgAppend HSA.out HS.out HVA.out.es HC.out.es (Nat.le_trans HC.out.len (by omega)))
    have HP2:=qq (show ((g.append c.es).getD g).Sm from by
     rcases hq:g.append c.es with _|g2
     ·exact HS.out
     ·exact (LgL.append_pre hq HP.out HC.out.es HC.out.len HLN.out).1.isSm)
    go_wp2_with fail
    refine HG.out.mono ?_;rintro r w2 ⟨rfl,⟨B2,hb2,hl2⟩,hu⟩;have HD2:=qq (HD.out.step hl2 hu rfl hb2);clear hl2 hu;have HL:=qq (spLast HD2.out.lg HP2.out.s HP2.out.u).toU;go_wp2_with fail
    refine HL.out.mono ?_;rintro r w3 ⟨rfl,u3⟩;have HD3:=qq (HD2.out.no u3);clear u3;have a1:w3.cell? ⟨(w.heap.size+1+1),1,none⟩=some (.int .u64 0):=HD3.out.an.cell 1;have ya:=HD3.out.an.frozen;go_wp2_with fail
    go_meet
    refine (HD3.out.set HNB.out 1 (.int .u64 ((g.append c.es).getD g).last) {Ja.nil with n:=((g.append c.es).getD g).last} rfl).fin (fun he=>?_) fun An g1 he=>?_
    ·rw [HX.out] at he;rcases hq:g.append c.es with _|g1
     ·rfl
     ·rw [hq] at he;cases he
    ·rw [HX.out] at he;rcases hq:g.append c.es with _|g2
     ·rw [hq] at he;cases he
     ·rw [hq] at he;cases he;exact ⟨rfl,⟨rfl,rfl,rfl,rfl,rfl,rfl,Jg.nil none,SnV.Js _ _⟩,rfl⟩
   by_cases n2:kd=2
   ·subst n2;clear n1;have HX:=qq (show LDo g c=g.maybe c by have:=HF.out;unfold LDo;rw [if_neg this,if_neg (by have:=HK.out;omega),if_pos HK.out]);have HG:=qq (spMaybe HSA.out HP.out HO.out HLN.out HVA.out HC.out HAB.out HNB.out);have HI45:=qq v.inf
    go_wp2_with (first
     |(with_reducible refine Jm rfl 45 (.tmp 3) rfl w.heap.size v.cells rfl 45 _ HPB.out Tryz.underlying45 rfl HI45.out ?_)
     |fail)
    refine HG.out.mono ?_;rintro r w2 ⟨V,bb,A2,B2,g2,rfl,hA2,hB2,hS2,hb2,hu2,h1,h2⟩;have HD2:=qq (show DoS N wa l A B (w.heap.size+1+1) V A2 B2 g2 w2 from ⟨hS2,hb2,hu2,hA2,hB2⟩);have H3:=qq (And.intro h1 h2);clear hS2 hb2 hu2 h1 h2;go_wp2_with fail
    go_meet
    exact HD2.out.fin (fun he=>H3.out.1 (HX.out ▸he)) fun An g1 he=>H3.out.2 An g1 (HX.out ▸he)
   by_cases n13:kd=13
   ·subst n13;clear n1 n2;have HX:=qq (show LDo g c=((g.commit? c.a).map fun g'=>(LAns.none,g')) by have:=HF.out;unfold LDo;rw [if_neg this,if_neg (by have:=HK.out;omega),if_neg (by have:=HK.out;omega),if_pos HK.out]);have HG:=qq (spCommit (n:=c.a) HSA.out HS.out);go_wp2_with fail
    refine HG.out.mono ?_;rintro r w2 ⟨rfl,hl2,hu⟩;have HD2:=qq (HD.out.step hl2 hu rfl rfl);clear hl2 hu;go_wp2_with fail
    go_meet
    refine (HD2.out).fin (fun he=>?_) fun An g1 he=>?_
    ·rw [HX.out] at he;rcases hq:g.commit? c.a with _|g1
     ·rfl
     ·rw [hq] at he;cases he
    ·rw [HX.out] at he;rcases hq:g.commit? c.a with _|g2
     ·rw [hq] at he;cases he
     ·rw [hq] at he;cases he;exact ⟨rfl,Ja.Js _ _,rfl⟩
   by_cases n14:kd=14
   ·subst n14;clear n1 n2 n13;have HX0:=qq (show LDo g c=(if g.mc c.atT c.atI=true then some ({LAns.none with flag:=true},g.commit c.atI) else some (LAns.none,g)) by have:=HF.out;unfold LDo;rw [if_neg this,if_neg (by have:=HK.out;omega),if_neg (by have:=HK.out;omega),if_neg (by have:=HK.out;omega),if_pos HK.out]);have p5:wa.cell? ⟨w.heap.size,5,none⟩=some (.int .u64 c.atT):=by rw [←HVA.out.atT];exact HPB.out.cell 5
    have k2:wa.cell? ⟨l,2,none⟩=some (.int .u64 g.com):=HSA.out.c 2;have HXN:=qq fun (h:g.mc c.atT c.atI=false)=>(show LDo g c=some (LAns.none,g) by rw [HX0.out,h];rfl);by_cases e1:c.atT=0
    ·have q1:(c.atT !=0)=false:=by rw [e1];rfl
     have HX:=qq (HXN.out (by unfold LgL.mc;rw [e1];rfl));clear e1;go_wp2_with fail
     go_quiet (fail)
     go_wp2_with fail
     go_meet
     exact (HD.out.no ((Upd.refl No wa).drewN _)).fin (fun he=>by rw [HX.out] at he;cases he) fun An g1 he=>by
      rw [HX.out] at he;cases he;exact ⟨rfl,Ja.Js _ _,rfl⟩
    ·have q1:(c.atT !=0)=true:=bne_iff_ne.2 e1;by_cases e2:g.com<c.atI
     ·have d2:decide (g.com<c.atI)=true:=decide_eq_true e2;have HG:=qq fun (W:World) (hu:Upd No wa W)=>spMatch (t:=c.atT) (HSA.out.no hu) HS.out HC.out.ai0 HC.out.ai1;rw [LgL.matchX_eq (by omega)] at HG;have HR:=qq fun (W:World) (hu:Upd No wa W)=>(HPB.out.upd hu (fun h=>h)).rangeIn v.at_range rfl;rw [HVA.out.atT,HVA.out.atI] at HR;have HU33:=qq Tryz.underlying33;have HI33:=qq inf33;clear e1 e2;go_wp2_with fail
      go_still_tail 18,(by kernel_rfl)
      change wpList _ _ _ _ _ wa.drew;have U0:=qq (show Upd No wa wa.drew from (Upd.refl No wa).drew);generalize wa.drew=w1 at*;go_wp2_with fail
      refine (HG.out _ U0.out).mono ?_;rintro r w2 ⟨rfl,u2⟩;have U2:=qq (U0.out.no u2);clear u2;have p6:=U2.out.cell p6 (fun h=>h);have HD2:=qq (HD.out.no U2.out);have HCM:=qq (spCommit (n:=c.atI) HD2.out.lg HS.out)
      have HLA:=qq fun (h:g.matches c.atT c.atI=true)=>(show ¬g.last<c.atI from fun hl=>by
       have:=HO.out.term_above hl
       unfold LgL.matches at h;simp only [Bool.and_eq_true,decide_eq_true_eq] at h
       exact this h.1)
      rcases hm:g.matches c.atT c.atI with _|_
      ·have HX:=qq (HXN.out (by unfold LgL.mc;rw [hm,Bool.and_false]));clear hm;go_wp2_with fail
       go_meet
       exact (HD2.out).fin (fun he=>by rw [HX.out] at he;cases he) fun An g1 he=>by
        rw [HX.out] at he;cases he;exact ⟨rfl,Ja.Js _ _,rfl⟩
      ·have HX:=qq (show LDo g c=some ({LAns.none with flag:=true},g.commit c.atI) by
        have h1:=of_decide_eq_false (p:=c.atT=0) (by simpa using q1);have h3:g.mc c.atT c.atI=true:=by unfold LgL.mc;rw [d2,hm,decide_eq_true h1];rfl
        rw [HX0.out,if_pos h3])
       have hq:g.commit? c.atI=some (g.commit c.atI):=by unfold LgL.commit?;rw [if_neg (fun h=>HLA.out hm h.2)]
       rw [hq] at HCM;have HCM:=qq HCM.out;clear hm hq;go_wp2_with fail
       refine HCM.out.mono ?_;rintro r w3 ⟨rfl,hl3,hu3⟩;have HD3:=qq (HD2.out.step hl3 hu3 rfl rfl);clear hl3 hu3;have a3:w3.cell? ⟨(w.heap.size+1+1),3,none⟩=some (.bool false):=HD3.out.an.cell 3;have ya:=HD3.out.an.frozen;go_wp2_with fail
       go_meet
       exact (HD3.out.set HNB.out 3 (.bool true) {Ja.nil with flag:=true} rfl).fin (fun he=>by rw [HX.out] at he;cases he) fun An g1 he=>by
        rw [HX.out] at he;cases he;exact ⟨rfl,⟨rfl,rfl,rfl,rfl,rfl,rfl,Jg.nil none,SnV.Js _ _⟩,rfl⟩
     ·have d2:decide (g.com<c.atI)=false:=decide_eq_false e2;have HX:=qq (HXN.out (by unfold LgL.mc;rw [d2,Bool.and_false,Bool.false_and]));clear e1 e2;go_wp2_with fail
      go_quiet (fail)
      go_wp2_with fail
      go_meet
      exact (HD.out.no ((Upd.refl No wa).drewN _)).fin (fun he=>by rw [HX.out] at he;cases he) fun An g1 he=>by
       rw [HX.out] at he;cases he;exact ⟨rfl,Ja.Js _ _,rfl⟩
   by_cases n18:kd=18
   ·subst n18;clear n1 n2 n13 n14
    have HX:=qq (show LDo g c=((g.applyX v.kind v.a v.b v.flag).map fun g'=>(LAns.none,g')) by
     have hf:=HF.out;unfold LDo;rw [if_neg hf,if_neg (by have:=HK.out;omega),if_neg (by have:=HK.out;omega),if_neg (by have:=HK.out;omega),if_neg (by have:=HK.out;omega),if_pos HK.out];unfold LgL.applyX;rw [HVA.out.kind,HVA.out.a,HVA.out.b,HVA.out.flag,if_neg (show ¬farI≤c.b by unfold farI;omega),if_pos HK.out]
     split<;>rfl)
    have HG:=qq (spApply HSA.out HS.out HO.out.u.o1 HO.out.g0 HO.out.g2 (v:=v) (by rw [HVA.out.b];exact HC.out.b0));have HI45:=qq v.inf
    go_wp2_with (first
     |(with_reducible refine Jm rfl 45 (.tmp 3) rfl w.heap.size v.cells rfl 45 _ HPB.out Tryz.underlying45 rfl HI45.out ?_)
     |fail)
    refine HG.out.mono ?_;rintro r w2 ⟨rfl,hl2,hu⟩;have HD2:=qq (HD.out.step hl2 hu rfl rfl);clear hl2 hu;go_wp2_with fail
    go_meet
    refine (HD2.out).fin (fun he=>?_) fun An g1 he=>?_
    ·rw [HX.out] at he;rcases hq:g.applyX v.kind v.a v.b v.flag with _|g1
     ·rfl
     ·rw [hq] at he;cases he
    ·rw [HX.out] at he;rcases hq:g.applyX v.kind v.a v.b v.flag with _|g2
     ·rw [hq] at he;cases he
     ·rw [hq] at he;cases he;exact ⟨rfl,Ja.Js _ _,rfl⟩
   by_cases n19:kd=19
   ·subst n19;clear n1 n2 n13 n14 n18
    have HX:=qq (show LDo g c=((g.applyX v.kind v.a v.b v.flag).map fun g'=>(LAns.none,g')) by
     have hf:=HF.out;unfold LDo;rw [if_neg hf,if_neg (by have:=HK.out;omega),if_neg (by have:=HK.out;omega),if_neg (by have:=HK.out;omega),if_neg (by have:=HK.out;omega),if_neg (by have:=HK.out;omega),if_pos HK.out];unfold LgL.applyX;rw [HVA.out.kind,HVA.out.a,HVA.out.b,HVA.out.flag,if_neg (show ¬farI≤c.b by unfold farI;omega),if_neg (show ¬c.kind=18 by have:=HK.out;omega)]
     split<;>rfl)
    have HG:=qq (spApply HSA.out HS.out HO.out.u.o1 HO.out.g0 HO.out.g2 (v:=v) (by rw [HVA.out.b];exact HC.out.b0));have HI45:=qq v.inf
    go_wp2_with (first
     |(with_reducible refine Jm rfl 45 (.tmp 3) rfl w.heap.size v.cells rfl 45 _ HPB.out Tryz.underlying45 rfl HI45.out ?_)
     |fail)
    refine HG.out.mono ?_;rintro r w2 ⟨rfl,hl2,hu⟩;have HD2:=qq (HD.out.step hl2 hu rfl rfl);clear hl2 hu;go_wp2_with fail
    go_meet
    refine (HD2.out).fin (fun he=>?_) fun An g1 he=>?_
    ·rw [HX.out] at he;rcases hq:g.applyX v.kind v.a v.b v.flag with _|g1
     ·rfl
     ·rw [hq] at he;cases he
    ·rw [HX.out] at he;rcases hq:g.applyX v.kind v.a v.b v.flag with _|g2
     ·rw [hq] at he;cases he
     ·rw [hq] at he;cases he;exact ⟨rfl,Ja.Js _ _,rfl⟩
   by_cases n23:kd=23
   ·subst n23;clear n1 n2 n13 n14 n18 n19;have HX:=qq (show LDo g c=some (LAns.none,g.accept) by have:=HF.out;unfold LDo;rw [if_neg this,if_neg (by have:=HK.out;omega),if_neg (by have:=HK.out;omega),if_neg (by have:=HK.out;omega),if_neg (by have:=HK.out;omega),if_neg (by have:=HK.out;omega),if_neg (by have:=HK.out;omega),if_pos HK.out]);have HG:=qq (spAccept HSA.out.tl HS.out.u);go_wp2_with fail
    refine HG.out.mono ?_;rintro r w2 ⟨rfl,ht,hu⟩;have X2:=HSA.out.of_tl ht rfl hu;have HD2:=qq (HD.out.step X2.1 X2.2 rfl rfl);clear ht hu X2;go_wp2_with fail
    go_meet
    exact (HD2.out).fin (fun he=>by rw [HX.out] at he;cases he) fun An g1 he=>by
     rw [HX.out] at he;cases he;exact ⟨rfl,Ja.Js _ _,rfl⟩
   by_cases n24:kd=24
   ·subst n24;clear n1 n2 n13 n14 n18 n19 n23;have HX:=qq (show LDo g c=some (LAns.none,g.stable c.atT c.atI) by have:=HF.out;unfold LDo;rw [if_neg this,if_neg (by have:=HK.out;omega),if_neg (by have:=HK.out;omega),if_neg (by have:=HK.out;omega),if_neg (by have:=HK.out;omega),if_neg (by have:=HK.out;omega),if_neg (by have:=HK.out;omega),if_neg (by have:=HK.out;omega),if_pos HK.out]);have HG:=qq fun (W:World) (hu:Upd No wa W)=>spStable (t:=c.atT) (HSA.out.no hu).tl HS.out.u HC.out.ai0 (by omega);have p5:wa.cell? ⟨w.heap.size,5,none⟩=some (.int .u64 c.atT):=by rw [←HVA.out.atT];exact HPB.out.cell 5
    go_wp2_with fail
    go_still_tail 6,(by kernel_rfl)
    change wpList _ _ _ _ _ wa.drew;have U0:=qq (show Upd No wa wa.drew from (Upd.refl No wa).drew);generalize wa.drew=w1 at*;go_wp2_with fail
    refine (HG.out _ U0.out).mono ?_;rintro r w2 ⟨rfl,⟨B2,hb2,ht⟩,hu⟩;have X2:=(HSA.out.no U0.out).of_tl ht hb2 hu;have HD2:=qq ((HD.out.no U0.out).step X2.1 X2.2 rfl hb2);clear ht hu X2;go_wp2_with fail
    go_meet
    exact (HD2.out).fin (fun he=>by rw [HX.out] at he;cases he) fun An g1 he=>by
     rw [HX.out] at he;cases he;exact ⟨rfl,Ja.Js _ _,rfl⟩
   by_cases n25:kd=25
   ·subst n25;clear n1 n2 n13 n14 n18 n19 n23 n24;have HX:=qq (show LDo g c=some (LAns.none,g.Jy c.a) by have:=HF.out;unfold LDo;rw [if_neg this,if_neg (by have:=HK.out;omega),if_neg (by have:=HK.out;omega),if_neg (by have:=HK.out;omega),if_neg (by have:=HK.out;omega),if_neg (by have:=HK.out;omega),if_neg (by have:=HK.out;omega),if_neg (by have:=HK.out;omega),if_neg (by have:=HK.out;omega),if_pos HK.out]);have HG:=qq fun (W:World) (hu:Upd No wa W)=>spStableSnap (i:=c.a) (HSA.out.no hu).tl;go_wp2_with fail
    go_still_tail 6,(by kernel_rfl)
    change wpList _ _ _ _ _ wa.drew;have U0:=qq (show Upd No wa wa.drew from (Upd.refl No wa).drew);generalize wa.drew=w1 at*;go_wp2_with fail
    refine (HG.out _ U0.out).mono ?_;rintro r w2 ⟨rfl,⟨B2,hb2,ht⟩,hu⟩;have X2:=(HSA.out.no U0.out).of_tl ht hb2 hu;have HD2:=qq ((HD.out.no U0.out).step X2.1 X2.2 rfl hb2);clear ht hu X2;go_wp2_with fail
    go_meet
    exact (HD2.out).fin (fun he=>by rw [HX.out] at he;cases he) fun An g1 he=>by
     rw [HX.out] at he;cases he;exact ⟨rfl,Ja.Js _ _,rfl⟩
   by_cases n26:kd=26
   ·subst n26;clear n1 n2 n13 n14 n18 n19 n23 n24 n25;have HX:=qq (show LDo g c=(if c.snap.index≤0∨c.snap.index<g.com∨farI≤c.snap.index∨farI≤c.snap.term then none else some (LAns.none,g.restore c.snap)) by have:=HF.out;unfold LDo;rw [if_neg this,if_neg (by have:=HK.out;omega),if_neg (by have:=HK.out;omega),if_neg (by have:=HK.out;omega),if_neg (by have:=HK.out;omega),if_neg (by have:=HK.out;omega),if_neg (by have:=HK.out;omega),if_neg (by have:=HK.out;omega),if_neg (by have:=HK.out;omega),if_neg (by have:=HK.out;omega),if_pos HK.out]);unfold farI at HX;have p11:wa.cell? ⟨w.heap.size,11,none⟩=some (.int .u64 c.snap.index):=by rw [←HVA.out.sn.index];exact HPB.out.cell 11
    have p12:wa.cell? ⟨w.heap.size,12,none⟩=some (.int .u64 c.snap.term):=by rw [←HVA.out.sn.term];exact HPB.out.cell 12
    have k2:wa.cell? ⟨l,2,none⟩=some (.int .u64 g.com):=HSA.out.c 2;have HXN:=qq fun (h:c.snap.index≤0∨c.snap.index<g.com∨4611686018427387904≤c.snap.index∨4611686018427387904≤c.snap.term)=>(show LDo g c=none by rw [HX.out,if_pos h]);have HXY:=qq fun (h:¬(c.snap.index≤0∨c.snap.index<g.com∨4611686018427387904≤c.snap.index∨4611686018427387904≤c.snap.term))=>(show LDo g c=some (LAns.none,g.restore c.snap) by rw [HX.out,if_neg h]);by_cases e1:0<c.snap.index
    ·have d1:decide (0<c.snap.index)=true:=decide_eq_true e1;by_cases e2:g.com≤c.snap.index
     ·have d2:decide (g.com≤c.snap.index)=true:=decide_eq_true e2;by_cases e3:c.snap.index<4611686018427387904
      ·have d3:decide (c.snap.index<4611686018427387904)=true:=decide_eq_true e3;by_cases e4:c.snap.term<4611686018427387904
       ·have d4:decide (c.snap.term<4611686018427387904)=true:=decide_eq_true e4;have HX:=qq (HXY.out (by omega));have HG:=qq fun (W:World) (hu:SpTl N W B g.u) (hv:v.sn.Rd N W c.snap)=>spRestore hu hv (by omega) e3;clear e1 e2 e3 e4 HXN HXY;go_wp2_with fail
        go_quiet (fail)
        obtain ⟨w1,hw1⟩:∃W,W=wa.drewN nq:=⟨_,rfl⟩;have U1:=qq (show Upd No wa w1 by rw [hw1];exact (Upd.refl No wa).drewN nq);rw [←hw1];clear hw1 hwa;have p11:=U1.out.cell p11 (fun h=>h);have k2:=U1.out.cell k2 (fun h=>h);have yl:=(HSA.out.no U1.out).blk.frozen;have HX2:=qq (((HSA.out.no U1.out)).put 2 (.int .u64 c.snap.index) {g with com:=c.snap.index} rfl rfl rfl);have HD2:=qq ((HD.out.no U1.out).step HX2.out.1 HX2.out.2 rfl rfl);have HPB2:=qq ((HPB.out.upd U1.out (fun h=>h)).upd HX2.out.2 (fun hk=>absurd (HLT.out _ hk) (Nat.lt_irrefl _)));have HV2:=qq ((HVA.out.sn.fr U1.out.fr0).fr ((HSA.out.no U1.out).fr_s HX2.out.2));have HU39:=qq Tryz.underlying39;have HI39:=qq v.sn.inf8;go_upto_region 30 with fail
        have k1:(w1.setCell ⟨l,2,none⟩ (.int .u64 c.snap.index)).cell? ⟨l,1,none⟩=some (pp B.b):=HD2.out.lg.c 1;generalize w1.setCell ⟨l,2,none⟩ (.int .u64 c.snap.index)=w2 at*;have HR:=qq fun (W:World) (hu:Upd No w2 W)=>(HPB2.out.upd hu (fun h=>h)).rangeIn v.sn_range rfl;go_still_tail 6,(by kernel_rfl);refine still_load_mid (by rfl) 39 (.tmp 150) rfl w.heap.size 10 rfl v.sn.cells _ (HR.out w2.drew (Upd.refl No w2).drew) HU39.out rfl HI39.out ?_;try simp only [NR]
        refine wpStill_nil ?_;change wpList _ _ _ _ _ w2.drew;have U2:=qq (show Upd No w2 w2.drew from (Upd.refl No w2).drew);generalize w2.drew=w3 at*;go_wp2_with fail
        refine (HG.out _ (HD2.out.no U2.out).lg.tl (HV2.out.fr U2.out.fr0)).mono ?_;rintro r w4 ⟨rfl,⟨B2,hb2,ht⟩,hu⟩;have X2:=(HD2.out.no U2.out).lg.of_tl ht hb2 hu;have HD3:=qq ((HD2.out.no U2.out).step X2.1 X2.2 rfl hb2);clear ht hu X2;go_wp2_with fail
        go_meet
        exact (HD3.out).fin (fun he=>by rw [HX.out] at he;cases he) fun An g1 he=>by
         rw [HX.out] at he;cases he;exact ⟨rfl,Ja.Js _ _,rfl⟩
       ·have d4:decide (c.snap.term<4611686018427387904)=false:=decide_eq_false e4;have HX:=qq (HXN.out (by omega));clear e1 e2 e3 e4;go_wp2_with fail
        go_quiet (fail)
        go_wp2_with fail
        go_meet
        exact (HD.out.no ((Upd.refl No wa).drewN _)).fin (fun _=>rfl) fun An g1 he=>by rw [HX.out] at he;cases he
      ·have d3:decide (c.snap.index<4611686018427387904)=false:=decide_eq_false e3;have HX:=qq (HXN.out (by omega));clear e1 e2 e3;go_wp2_with fail
       go_quiet (fail)
       go_wp2_with fail
       go_meet
       exact (HD.out.no ((Upd.refl No wa).drewN _)).fin (fun _=>rfl) fun An g1 he=>by rw [HX.out] at he;cases he
     ·have d2:decide (g.com≤c.snap.index)=false:=decide_eq_false e2;have HX:=qq (HXN.out (by omega));clear e1 e2;go_wp2_with fail
      go_quiet (fail)
      go_wp2_with fail
      go_meet
      exact (HD.out.no ((Upd.refl No wa).drewN _)).fin (fun _=>rfl) fun An g1 he=>by rw [HX.out] at he;cases he
    ·have d1:decide (0<c.snap.index)=false:=decide_eq_false e1;have HX:=qq (HXN.out (by omega));clear e1;go_wp2_with fail
     go_quiet (fail)
     go_wp2_with fail
     go_meet
     exact (HD.out.no ((Upd.refl No wa).drewN _)).fin (fun _=>rfl) fun An g1 he=>by rw [HX.out] at he;cases he
   by_cases n34:kd=34
   ·subst n34;clear n1 n2 n13 n14 n18 n19 n23 n24 n25 n26;have HX:=qq (show LDo g c=((SDo g.s c.st).map fun x=>({LAns.none with err:=x.1.err,n:=x.1.n,es:=x.1.es,snap:=x.1.snap},{g with s:=x.2})) by have:=HF.out;unfold LDo;rw [if_neg this,if_neg (by have:=HK.out;omega),if_neg (by have:=HK.out;omega),if_neg (by have:=HK.out;omega),if_neg (by have:=HK.out;omega),if_neg (by have:=HK.out;omega),if_neg (by have:=HK.out;omega),if_neg (by have:=HK.out;omega),if_neg (by have:=HK.out;omega),if_neg (by have:=HK.out;omega),if_neg (by have:=HK.out;omega),if_pos HK.out]);have HG:=qq fun (W:World) (hu:Upd No wa W)=>spStDo (HSA.out.no hu).st HS.out.s (HVA.out.st.fr hu.fr0) HC.out.st;have hlp:=HPB.out.ne_ HSA.out.st.blk (by decide)
    have HXS:=qq fun (W:World) (hu:Upd (fun k=>k=A.b∨wa.heap.size≤k) wa W)=>(show W.cell? ⟨l,0,none⟩=some (pp A.b)∧W.rangeAt w.heap.size 18 v.st.cells.toList from
     ⟨hu.cell k0 (by
      rintro (e|e)
      ·exact HSA.out.blk.ne_ HSA.out.st.blk (by decide) e
      ·have:=HSA.out.blk.lt;omega),
      (HPB.out.upd hu (by
      rintro (e|e)
      ·exact hlp e
      ·have:=HPB.out.lt;omega)).rangeIn v.st_range rfl⟩)
    have HBS:=qq (show (w.heap.size+1+1)<wa.heap.size from HAB.out.lt);have HI43:=qq v.st.inf;have HU43:=qq Tryz.underlying43;clear hlp hwa;go_upto_region 32 with fail
    go_cut [8,9] (fun s8 s9 W=>DoX N wa l A B (w.heap.size+1+1) g (SDo g.s c.st) s8 s9 W)
    case first=>
     clear p1 p2 p6 k0 k1;refine wp_region_held_drew (S:=fun W=>W.cell? ⟨l,0,none⟩=some (pp A.b)∧W.rangeAt w.heap.size 18 v.st.cells.toList) (by kernel_rfl) (HXS.out _ ((Upd.refl No wa).drew).ofNo) (fun hHeld=>?_);refine tk 0 rfl ?_ ?_ ?_;rotate_left 1
     ·intro w hS;go_simp;all_goals with_reducible rfl
     try simp only [NR]
     refine tk 1 rfl ?_ ?_ ?_;rotate_left 1
     ·intro w hS;go_simp;all_goals with_reducible rfl
     try simp only [NR]
     refine tk 2 rfl ?_ ?_ ?_;rotate_left 1
     ·intro w hS;go_simp;all_goals with_reducible rfl
     try simp only [NR]
     refine tk 3 rfl ?_ ?_ ?_;rotate_left 1
     ·intro w hS;go_simp;all_goals with_reducible rfl
     try simp only [NR]
     refine tk 4 rfl ?_ ?_ ?_;rotate_left 1
     ·intro w hS;go_simp;all_goals with_reducible rfl
     try simp only [NR]
     refine wpAnyH_take (i:=5) (v:=.agg v.st.cells) rfl (by kernel_rfl) (by kernel_rfl) (by kernel_rfl) (fun _ _ _ h=>h) (Kd (by rfl) 43 (.tmp 160) rfl w.heap.size 18 rfl v.st.cells _ (fun _ hS=>hS.2) HU43.out rfl HI43.out) hHeld ?_;try simp only [NR]
     refine wpAnyH_ready (rs:=[6,10]) (by kernel_rfl) (by simp) ?_;refine AllReadyH.cons (o:=_) rfl (fun K hK=>?_) (AllReadyH.cons (o:=_) rfl (fun K hK=>?_) AllReadyH.nil)
     ·rw [if_pos (by rfl)];go_simp;refine (HG.out _ (Upd.refl No wa).drew).mono ?_;rintro r w2 ⟨V,bb,A2,s2,rfl,hA2,hS2,hu2,h1,h2⟩;have X2:=(HSA.out.no (Upd.refl No wa).drew).of_st hS2 hA2 hu2;have HD2:=qq ((HD.out.no (Upd.refl No wa).drew).step X2.1 X2.2 hA2 rfl);have HU2:=qq (show Upd (fun k=>k=A.b∨wa.heap.size≤k) wa w2 from (((Upd.refl No wa).drew).ofNo (S:=fun k=>k=A.b∨wa.heap.size≤k)).Ke (hu2.mono fun k hk=>.inl hk));have H3:=qq (And.intro h1 h2);clear hS2 hA2 hu2 h1 h2 X2;go_wp2_with fail
      refine hK.out _ _ (HXS.out _ HU2.out) (fun hHeld=>?_);clear hK;try simp only [NR]
      refine tk 7 rfl ?_ ?_ ?_;rotate_left 1
      ·intro w hS;go_simp;all_goals with_reducible rfl
      try simp only [NR]
      refine tk 8 rfl ?_ ?_ ?_;rotate_left 1
      ·intro w hS;go_simp;all_goals with_reducible rfl
      try simp only [NR]
      refine tk 9 rfl ?_ ?_ ?_;rotate_left 1
      ·intro w hS;go_simp;all_goals with_reducible rfl
      try simp only [NR]
      refine wpAnyH_ready (rs:=[10]) (by kernel_rfl) (by simp) ?_;refine ac rfl fun K hK=>?_;rw [if_pos (by rfl)];go_simp;refine hK.out _ _ (HXS.out _ (HU2.out.alloc _)) (fun hHeld=>?_);clear hK;try simp only [NR]
      have HBN:=qq (Blk.new w2 69 Jb.nil.cells);have HSZ:=qq HU2.out.size;have HVF:=qq fun (An:SAns) (h:V.Rd N w2 An)=>h.fr ((Upd.refl No w2).alloc (.cells Jb.nil.cells 69)).fr0;have HD2:=qq (HD2.out.no ((Upd.refl No w2).alloc (.cells Jb.nil.cells 69)));have HU2:=qq (HU2.out.alloc (.cells Jb.nil.cells 69));refine wpAnyH_ready (rs:=[11]) (by kernel_rfl) (by simp) ?_;refine ac rfl fun K hK=>?_;refine step_store_blk rfl 69 (.tmp 8) (.tmp 163) rfl w2.heap.size V.cells rfl rfl 69 Jb.nil.cells HBN.out V.inf rfl V.one ?_;intro w3 hb3 hu3;have hf3:=hu3.fr (N:=N) (by rintro k rfl;exact HBN.out.mutb (by have:=HSZ.out;have:=HNB.out;have:=HBS.out;omega) rfl);have HD3:=qq (HD2.out.far hu3 (by have:=HSZ.out;have:=HBS.out;omega) hf3 (fun hk=>by have:=HLT.out _ hk;have:=HSZ.out;have:=HBS.out;omega) HSZ.out);have HB3:=qq hb3;have HV3:=qq fun (An:SAns) (s':StL) (he:SDo g.s c.st=some (An,s'))=>(show bb=true∧V.Rd N w3 An∧s'=s2 from ⟨(H3.out.2 An s' he).1,(HVF.out _ (H3.out.2 An s' he).2.1).fr hf3,(H3.out.2 An s' he).2.2⟩);have HU3:=qq (HU2.out.Ke (hu3.mono (fun k hk=>.inr (by have:=HSZ.out;omega))));clear hf3 hb3 hu3;refine hK.out _ _ (HXS.out _ HU3.out) (fun hHeld=>?_);clear hK;try simp only [NR]
      refine wpAnyH_ready (rs:=[12]) (by kernel_rfl) (by simp) ?_;refine ac rfl fun K hK=>?_;rw [if_pos (by rfl)];go_simp;refine hK.out _ _ (HXS.out _ HU3.out) (fun hHeld=>?_);clear hK;try simp only [NR]
      refine wpAnyH_done (by kernel_rfl) ?_ _;go_wp2_with fail
      go_meet
      exact ⟨w2.heap.size,bb,V,A2,s2,rfl,rfl,(by have:=HSZ.out;have:=HBS.out;omega),HB3.out,HD3.out,H3.out.1,HV3.out⟩
     ·rw [if_pos (by rfl)];go_simp;refine hK.out _ _ (HXS.out _ ((((Upd.refl No wa).drew).alloc (.cells Jb.nil.cells 69))).ofNo) (fun hHeld=>?_);clear hK;try simp only [NR]
      refine wpAnyH_ready (rs:=[6]) (by kernel_rfl) (by simp) ?_;refine ac rfl fun K hK=>?_;rw [if_pos (by rfl)];go_simp;refine (HG.out _ (((Upd.refl No wa).drew).alloc (.cells Jb.nil.cells 69))).mono ?_;rintro r w2 ⟨V,bb,A2,s2,rfl,hA2,hS2,hu2,h1,h2⟩;have X2:=(HSA.out.no (((Upd.refl No wa).drew).alloc (.cells Jb.nil.cells 69))).of_st hS2 hA2 hu2;have HD2:=qq ((HD.out.no (((Upd.refl No wa).drew).alloc (.cells Jb.nil.cells 69))).step X2.1 X2.2 hA2 rfl);have HU2:=qq (show Upd (fun k=>k=A.b∨wa.heap.size≤k) wa w2 from (((((Upd.refl No wa).drew).alloc (.cells Jb.nil.cells 69))).ofNo (S:=fun k=>k=A.b∨wa.heap.size≤k)).Ke (hu2.mono fun k hk=>.inl hk));have H3:=qq (And.intro h1 h2);have HSZ:=qq (Nat.le_refl wa.heap.size);have HBN:=qq (show Blk w2 wa.heap.size 69 Jb.nil.cells from ((Blk.new wa.drew 69 Jb.nil.cells)).upd hu2 (fun (e:wa.heap.size=A.b)=>by have:=HSA.out.st.blk.lt;omega));have HVF:=qq fun (An:SAns) (h:V.Rd N w2 An)=>h;clear hS2 hA2 hu2 h1 h2 X2;go_wp2_with fail
      refine hK.out _ _ (HXS.out _ HU2.out) (fun hHeld=>?_);clear hK;try simp only [NR]
      refine tk 7 rfl ?_ ?_ ?_;rotate_left 1
      ·intro w hS;go_simp;all_goals with_reducible rfl
      try simp only [NR]
      refine tk 8 rfl ?_ ?_ ?_;rotate_left 1
      ·intro w hS;go_simp;all_goals with_reducible rfl
      try simp only [NR]
      refine tk 9 rfl ?_ ?_ ?_;rotate_left 1
      ·intro w hS;go_simp;all_goals with_reducible rfl
      try simp only [NR]
      refine wpAnyH_ready (rs:=[11]) (by kernel_rfl) (by simp) ?_;refine ac rfl fun K hK=>?_;refine step_store_blk rfl 69 (.tmp 8) (.tmp 163) rfl wa.heap.size V.cells rfl rfl 69 Jb.nil.cells HBN.out V.inf rfl V.one ?_;intro w3 hb3 hu3;have hf3:=hu3.fr (N:=N) (by rintro k rfl;exact HBN.out.mutb (by have:=HSZ.out;have:=HNB.out;have:=HBS.out;omega) rfl);have HD3:=qq (HD2.out.far hu3 (by have:=HSZ.out;have:=HBS.out;omega) hf3 (fun hk=>by have:=HLT.out _ hk;have:=HSZ.out;have:=HBS.out;omega) HSZ.out);have HB3:=qq hb3;have HV3:=qq fun (An:SAns) (s':StL) (he:SDo g.s c.st=some (An,s'))=>(show bb=true∧V.Rd N w3 An∧s'=s2 from ⟨(H3.out.2 An s' he).1,(HVF.out _ (H3.out.2 An s' he).2.1).fr hf3,(H3.out.2 An s' he).2.2⟩);have HU3:=qq (HU2.out.Ke (hu3.mono (fun k hk=>.inr (by have:=HSZ.out;omega))));clear hf3 hb3 hu3;refine hK.out _ _ (HXS.out _ HU3.out) (fun hHeld=>?_);clear hK;try simp only [NR]
      refine wpAnyH_ready (rs:=[12]) (by kernel_rfl) (by simp) ?_;refine ac rfl fun K hK=>?_;rw [if_pos (by rfl)];go_simp;refine hK.out _ _ (HXS.out _ HU3.out) (fun hHeld=>?_);clear hK;try simp only [NR]
      refine wpAnyH_done (by kernel_rfl) ?_ _;go_wp2_with fail
      go_meet
      exact ⟨wa.heap.size,bb,V,A2,s2,rfl,rfl,(by have:=HSZ.out;have:=HBS.out;omega),HB3.out,HD3.out,H3.out.1,HV3.out⟩
    case rest=>
     obtain ⟨x,bb,V,A2,s2,rfl,rfl,hxa,hbx,hd,h1,h2⟩:=hcut;clear k0 k1 p1 p2 p6;obtain ⟨wx,hwx⟩:∃W,W=wc:=⟨_,rfl⟩;rw [←hwx] at hbx hd h2 ⊢;clear hwx;have HD0:=qq hd;have H3:=qq (And.intro h1 h2);have HFX:=qq (hd.an.mutb HNB.out rfl)
     have HXS:=qq fun (W:World) (hu:Upd (fun k=>k=(w.heap.size+1+1)) wx W)=>(show W.cell? ⟨x,0,none⟩=some (.int .i64 V.err)∧W.cell? ⟨x,1,none⟩=some (.int .u64 V.n)∧W.cell? ⟨x,2,none⟩=some V.es.v∧W.rangeAt x 3 V.sn.cells.toList from
      have hb:=hbx.upd hu hxa
      ⟨hb.cell 0,hb.cell 1,hb.cell 2,hb.rangeIn V.sn_range rfl⟩)
     have HI39:=qq V.sn.inf8;have HU39:=qq Tryz.underlying39;clear hd h1 h2 hbx hxa;go_upto_region 33 with fail
     obtain ⟨w0,hw0⟩:∃W,W=wx.drew:=⟨_,rfl⟩;have HU0:=qq (show Upd (fun k=>k=(w.heap.size+1+1)) wx w0 by rw [hw0];exact (Upd.refl _ wx).drew);have HD0:=qq (show DoS N wa l A B (w.heap.size+1+1) Ja.nil A2 B {g with s:=s2} w0 by rw [hw0];exact HD0.out.no (Upd.refl No wx).drew);refine wp_region_held_drew (S:=fun W=>W.cell? ⟨x,0,none⟩=some (.int .i64 V.err)∧W.cell? ⟨x,1,none⟩=some (.int .u64 V.n)∧W.cell? ⟨x,2,none⟩=some V.es.v∧W.rangeAt x 3 V.sn.cells.toList) (by kernel_rfl) (HXS.out _ ((Upd.refl _ wx).drew)) (fun hHeld=>?_);rw [←hw0] at hHeld ⊢;clear hw0;refine tk 0 rfl ?_ ?_ ?_;rotate_left 1
     ·intro w hS;go_simp;all_goals with_reducible rfl
     try simp only [NR]
     refine tk 1 rfl ?_ ?_ ?_;rotate_left 1
     ·intro w hS;go_simp;all_goals with_reducible rfl
     try simp only [NR]
     refine tk 2 rfl ?_ ?_ ?_;rotate_left 1
     ·intro w hS;go_simp;all_goals with_reducible rfl
     try simp only [NR]
     refine tk 3 rfl ?_ ?_ ?_;rotate_left 1
     ·intro w hS;go_simp;all_goals with_reducible rfl
     try simp only [NR]
     refine tk 4 rfl ?_ ?_ ?_;rotate_left 1
     ·intro w hS;go_simp;all_goals with_reducible rfl
     try simp only [NR]
     refine tk 5 rfl ?_ ?_ ?_;rotate_left 1
     ·intro w hS;go_simp;all_goals with_reducible rfl
     try simp only [NR]
     refine tk 6 rfl ?_ ?_ ?_;rotate_left 1
     ·intro w hS;go_simp;all_goals with_reducible rfl
     try simp only [NR]
     refine wpAnyH_take (i:=7) (v:=.agg V.sn.cells) rfl (by kernel_rfl) (by kernel_rfl) (by kernel_rfl) (fun _ _ _ h=>h) (Kd (by rfl) 39 (.tmp 171) rfl x 3 rfl V.sn.cells _ (fun _ hS=>hS.2.2.2) HU39.out rfl HI39.out) hHeld ?_;try simp only [NR]
     refine tk 8 rfl ?_ ?_ ?_;rotate_left 1
     ·intro w hS;go_simp;all_goals with_reducible rfl
     try simp only [NR]
     refine wpAnyH_ready (rs:=[9]) (by kernel_rfl) (by simp) ?_;refine ac rfl fun K hK=>?_;have a0:w0.cell? ⟨(w.heap.size+1+1),0,none⟩=some (.int .i64 0):=HD0.out.an.cell 0;have ya:=HD0.out.an.frozen;rw [if_pos (by rfl)];go_simp;have HD1:=qq (HD0.out.set HNB.out 0 (.int .i64 V.err) {Ja.nil with err:=V.err} rfl);have HU1:=qq (show Upd (fun k=>k=(w.heap.size+1+1)) wx (w0.setCell ⟨(w.heap.size+1+1),0,none⟩ (.int .i64 V.err)) from HU0.out.setIn rfl 0 _);refine hK.out _ _ (HXS.out _ HU1.out) (fun hHeld=>?_);clear hK;try simp only [NR]
     clear a0 ya;generalize w0.setCell ⟨(w.heap.size+1+1),0,none⟩ (.int .i64 V.err)=w1 at*;refine tk 10 rfl ?_ ?_ ?_;rotate_left 1
     ·intro w hS;go_simp;all_goals with_reducible rfl
     try simp only [NR]
     refine wpAnyH_ready (rs:=[11]) (by kernel_rfl) (by simp) ?_;refine ac rfl fun K hK=>?_;have a1:w1.cell? ⟨(w.heap.size+1+1),1,none⟩=some (.int .u64 0):=HD1.out.an.cell 1;have ya:=HD1.out.an.frozen;rw [if_pos (by rfl)];go_simp;have HD2:=qq (HD1.out.set HNB.out 1 (.int .u64 V.n) {Ja.nil with err:=V.err,n:=V.n} rfl);have HU2:=qq (show Upd (fun k=>k=(w.heap.size+1+1)) wx (w1.setCell ⟨(w.heap.size+1+1),1,none⟩ (.int .u64 V.n)) from HU1.out.setIn rfl 1 _);refine hK.out _ _ (HXS.out _ HU2.out) (fun hHeld=>?_);clear hK;try simp only [NR]
     clear a1 ya;generalize w1.setCell ⟨(w.heap.size+1+1),1,none⟩ (.int .u64 V.n)=w2 at*;refine tk 12 rfl ?_ ?_ ?_;rotate_left 1
     ·intro w hS;go_simp;all_goals with_reducible rfl
     try simp only [NR]
     refine wpAnyH_ready (rs:=[13]) (by kernel_rfl) (by simp) ?_;refine ac rfl fun K hK=>?_;have a6:w2.cell? ⟨(w.heap.size+1+1),6,none⟩=some (.slice none 0 0):=HD2.out.an.cell 6;have ya:=HD2.out.an.frozen;rw [if_pos (by rfl)];go_simp;have HD3:=qq (HD2.out.set HNB.out 6 V.es.v {Ja.nil with err:=V.err,n:=V.n,es:=V.es} rfl);have HU3:=qq (show Upd (fun k=>k=(w.heap.size+1+1)) wx (w2.setCell ⟨(w.heap.size+1+1),6,none⟩ V.es.v) from HU2.out.setIn rfl 6 _);refine hK.out _ _ (HXS.out _ HU3.out) (fun hHeld=>?_);clear hK;try simp only [NR]
     clear a6 ya;generalize w2.setCell ⟨(w.heap.size+1+1),6,none⟩ V.es.v=w3 at*;refine tk 14 rfl ?_ ?_ ?_;rotate_left 1
     ·intro w hS;go_simp;all_goals with_reducible rfl
     try simp only [NR]
     refine wpAnyH_ready (rs:=[15]) (by kernel_rfl) (by simp) ?_;refine ac rfl fun K hK=>?_;refine step_store_mid rfl 39 (.tmp 176) (.tmp 172) rfl (w.heap.size+1+1) 8 V.sn.cells rfl rfl 48 _ ({Ja.nil with err:=V.err,n:=V.n,es:=V.es,sn:=V.sn}:Ja).cells HD3.out.an (fun W hb=>Ja.putSn V.sn hb) (snLe _ V.sn) HI39.out V.sn.one8 ?_;intro w4 hb4 hu4;have HD4:=qq (HD3.out.putBlk HNB.out hu4 hb4);have HU4:=qq (HU3.out.Ke hu4);clear hb4 hu4;refine hK.out _ _ (HXS.out _ HU4.out) (fun hHeld=>?_);clear hK;try simp only [NR]
     refine wpAnyH_done (by kernel_rfl) ?_ _;go_wp2_with fail
     go_meet
     have hf4:=HU4.out.fr (N:=N) (by rintro k rfl;exact HFX.out);refine HD4.out.fin (fun he=>?_) fun An g1 he=>?_
     ·rw [HX.out] at he;rcases hq:SDo g.s c.st with _|⟨A1,s1⟩
      ·exact H3.out.1 hq
      ·rw [hq] at he;cases he
     ·rw [HX.out] at he;rcases hq:SDo g.s c.st with _|⟨A1,s1⟩
      ·rw [hq] at he;cases he
      ·rw [hq] at he;cases he;obtain ⟨h3,h4,h5⟩:=H3.out.2 A1 s1 hq;have h6:=h4.fr hf4;exact ⟨h3,⟨h6.err,h6.n,rfl,rfl,rfl,rfl,h6.es,h6.sn⟩,by rw [h5]⟩
   have HX:=qq (show LDo g c=g.ask c by have:=HF.out;unfold LDo;rw [if_neg this,if_neg (by have:=HK.out;omega),if_neg (by have:=HK.out;omega),if_neg (by have:=HK.out;omega),if_neg (by have:=HK.out;omega),if_neg (by have:=HK.out;omega),if_neg (by have:=HK.out;omega),if_neg (by have:=HK.out;omega),if_neg (by have:=HK.out;omega),if_neg (by have:=HK.out;omega),if_neg (by have:=HK.out;omega),if_neg (by have:=HK.out;omega)]);have q1:(kd==1)=false:=beq_eq_false_iff_ne.2 n1;have q2:(kd==2)=false:=beq_eq_false_iff_ne.2 n2;have q13:(kd==13)=false:=beq_eq_false_iff_ne.2 n13;have q14:(kd==14)=false:=beq_eq_false_iff_ne.2 n14;have q18:(kd==18)=false:=beq_eq_false_iff_ne.2 n18;have q19:(kd==19)=false:=beq_eq_false_iff_ne.2 n19;have q23:(kd==23)=false:=beq_eq_false_iff_ne.2 n23;have q24:(kd==24)=false:=beq_eq_false_iff_ne.2 n24;have q25:(kd==25)=false:=beq_eq_false_iff_ne.2 n25;have q26:(kd==26)=false:=beq_eq_false_iff_ne.2 n26;have q34:(kd==34)=false:=beq_eq_false_iff_ne.2 n34;clear n1 n2 n13 n14 n18 n19 n23 n24 n25 n26 n34;have HG:=qq (spAsk HSA.out HP.out HO.out HVA.out HC.out hfa hfb hfi HAB.out HNB.out);have HI45:=qq v.inf
   go_wp2_with (first
    |(with_reducible refine Jm rfl 45 (.tmp 3) rfl w.heap.size v.cells rfl 45 _ HPB.out Tryz.underlying45 rfl HI45.out ?_)
    |fail)
   refine HG.out.mono ?_;rintro r w2 ⟨V,bb,rfl,hb2,hu2,h1,h2⟩;have HD2:=qq (show DoS N wa l A B (w.heap.size+1+1) V A B g w2 from ⟨HSA.out.at_ab HAB.out HNB.out hu2,hb2,hu2.mono fun k hk=>.inr hk,rfl,rfl⟩);have H3:=qq (And.intro h1 h2);clear hb2 hu2 h1 h2;go_wp2_with fail
   go_meet
   refine HD2.out.fin (fun he=>H3.out.1 (HX.out ▸he)) fun An g1 he=>?_;obtain ⟨h3,h4,h5⟩:=H3.out.2 An g1 (HX.out ▸he);exact ⟨h3,h4,h5.symm⟩
  case rest=>
   obtain ⟨V,bb,A',B',g',rfl,hd,h1,h2⟩:=hcut;have HD:=qq hd;have H1:=qq h1;have H2:=qq h2;have k2:wc.cell? ⟨l,2,none⟩=some (.int .u64 g'.com):=hd.lg.c 2;have k3:wc.cell? ⟨l,3,none⟩=some (.int .u64 g'.apg):=hd.lg.c 3;have k4:wc.cell? ⟨l,4,none⟩=some (.int .u64 g'.apd):=hd.lg.c 4;have k7:wc.cell? ⟨l,7,none⟩=some (.bool g'.paused):=hd.lg.c 7;have a16:wc.cell? ⟨(w.heap.size+1+1),16,none⟩=some (.int .u64 V.com):=hd.an.cell 16;have a17:wc.cell? ⟨(w.heap.size+1+1),17,none⟩=some (.int .u64 V.apg):=hd.an.cell 17;have a18:wc.cell? ⟨(w.heap.size+1+1),18,none⟩=some (.int .u64 V.apd):=hd.an.cell 18;have a19:wc.cell? ⟨(w.heap.size+1+1),19,none⟩=some (.bool V.paused):=hd.an.cell 19;have ya:=hd.an.frozen;have hla:=hd.lg.blk.ne_ hd.an (by decide);clear hd h1 h2;go_wp2_with fail
   go_region
   obtain ⟨V2,hV2⟩:∃X,X=V.beh g':=⟨_,rfl⟩;have HV2:=qq hV2;have HB8:=qq (show Blk ((((wc.setCell ⟨(w.heap.size+1+1),16,none⟩ (.int .u64 g'.com)).setCell ⟨(w.heap.size+1+1),17,none⟩ (.int .u64 g'.apg)).setCell ⟨(w.heap.size+1+1),18,none⟩ (.int .u64 g'.apd)).setCell ⟨(w.heap.size+1+1),19,none⟩ (.bool g'.paused)).drew (w.heap.size+1+1) 48 V2.cells by rw [hV2];exact ((((HD.out.an.set_ 16 _).set_ 17 _).set_ 18 _).set_ 19 _).drew);have HU8:=qq (show Upd (fun k=>k=(w.heap.size+1+1)) wc ((((wc.setCell ⟨(w.heap.size+1+1),16,none⟩ (.int .u64 g'.com)).setCell ⟨(w.heap.size+1+1),17,none⟩ (.int .u64 g'.apg)).setCell ⟨(w.heap.size+1+1),18,none⟩ (.int .u64 g'.apd)).setCell ⟨(w.heap.size+1+1),19,none⟩ (.bool g'.paused)).drew from (((((Upd.refl (fun k=>k=(w.heap.size+1+1)) wc).setIn rfl 16 _).setIn rfl 17 _).setIn rfl 18 _).setIn rfl 19 _).drew);obtain ⟨w8,hw8⟩:∃X,X=((((wc.setCell ⟨(w.heap.size+1+1),16,none⟩ (.int .u64 g'.com)).setCell ⟨(w.heap.size+1+1),17,none⟩ (.int .u64 g'.apg)).setCell ⟨(w.heap.size+1+1),18,none⟩ (.int .u64 g'.apd)).setCell ⟨(w.heap.size+1+1),19,none⟩ (.bool g'.paused)).drew:=⟨_,rfl⟩;rw [←hw8] at HB8 HU8 ⊢;clear hV2 hw8 k2 k3 k4 k7 a16 a17 a18 a19 ya hla;have HL8:=qq (HD.out.lg.at_ab HD.out.an HNB.out HU8.out);have HR8:=qq ((HD.out.rest HLT.out rfl HRB.out).upd HU8.out (by omega));have HUU:=qq ((HUA.out.ofNo.Ke HD.out.up).Ke (HU8.out.mono fun k hk=>.inr hk));have HF8:=qq (HU8.out.fr (N:=N) (by intro k hk;rw [hk];exact HD.out.an.mutb HNB.out rfl))
   have HSZ:=qq (show Ja.nil.cells.size=V2.cells.size from rfl);have HIN:=qq V2.inf;have HON:=qq V2.one
   go_wp2_with (first
    |(with_reducible refine Jm rfl 48 (.tmp 6) rfl (w.heap.size+1+1) V2.cells rfl 48 _ HB8.out Tryz.underlying48 rfl HIN.out ?_)
    |(with_reducible refine Jk rfl 48 (.tmp 4) (.tmp 198) rfl (w.heap.size+1) V2.cells rfl rfl 48 Ja.nil.cells HR8.out HIN.out HSZ.out HON.out ?_
      intro w9 hb9 hu9;have HB9:=qq hb9;have HU9:=qq hu9
      clear hb9 hu9)
    |fail)
   refine Jw rfl (w.heap.size+1) 48 V2.cells _ rfl HB9.out Tryz.underlying48 rfl HIN.out rfl ?_;refine doFin HLT.out HNW.out HUU.out HD.out.hA HD.out.hB HL8.out HR8.out HU9.out H1.out fun An g1 he=>?_;obtain ⟨h3,h4,h5⟩:=H2.out An g1 he;exact ⟨h3,⟨V,h5 ▸HV2.out,h4.fr HF8.out⟩,h5⟩
end
end Go.Proofs.YtmagnkjodjmojaaGreat
