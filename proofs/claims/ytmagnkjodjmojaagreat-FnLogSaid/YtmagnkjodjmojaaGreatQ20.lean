/- A part of the proof of FnLog: laws and walks, with their conditions written at each. -/
import Derived.Defers
import Derived.Recover
import Derived.Deep.MidRow
import Derived.Deep.RegionHeld3
import Derived.Test.YtmagnkjodjmojaaGreatQ01
import Derived.Test.YtmagnkjodjmojaaGreatQ15
import Derived.Test.YtmagnkjodjmojaaGreatQ18
set_option maxRecDepth 20000
set_option maxHeartbeats 4000000
set_option linter.all false
namespace Go.Proofs.YtmagnkjodjmojaaGreat
open Go.RowKit
theorem catch72 (p:Addr) (x:Bool) (w:World) (hc:w.cell? p=some (.bool x)) (hz:w.frozen? p=false):
  CallsD Tryz.prog 72 #[.pointer (some p)] .returning w fun e u' w'=>e=.returned (.tuple #[])∧u'=.returning∧w'=w.setCell p (.bool false):=by
 refine callsD_of_wpS Tryz.func72 rfl fun c₀ cs hu=>?_;apply wpS_region;cases c₀;simp [wpOpsS,go_sem,recoverD,hu,Tryz.ntmps72,Exit.thenS,hc,hz,bodyPostS,results,Tryz.results72];simp_all
theorem upd_same {w:World} {b:Nat} {T:TypeId} {v:Value} (h:Blk w b T #[v]):Upd No w (w.setCell ⟨b,0,none⟩ v):=by
 refine ⟨rfl,rfl,rfl,by simp,fun k _ _=>?_⟩;by_cases e:k=b
 ·subst e;have:=h.set_ 0 v;exact (show (w.setCell ⟨k,0,none⟩ v).heap[k]? =_ from this).trans h.symm
 ·exact heap_setCell_ne e
theorem guard39 {a b c:Value} {w:World} {R:World→Prop} (h:Calls Tryz.prog 39 #[a,b,c] (w.alloc (.cells #[.bool false] 4)) fun e w'=>e=.returned (.tuple #[])∧R w') (hB:∀w',R w'→Blk w' w.heap.size 4 #[.bool false]):
  Calls Tryz.prog 38 #[.func (.func 39) #[] #[a,b,c]] w fun e w'=>e=.returned (.bool false)∧∃w1,R w1∧Upd No w1 w':=by
 have hmf:∀(fn:Fn) (first cap:Array Value) (w:World),(Instr.makeFunc fn first cap).run Tryz.prog w=.ok (.func fn first cap) w:=fun _ _ _ _=>rfl;go_enter_defers Tryz.func38,Tryz.ntmps38;go_wp2_with fail
 refine h.mono ?_;rintro r w1 ⟨rfl,hR⟩;have hb:=hB w1 hR;have z0:w1.cell? ⟨w.heap.size,0,none⟩=some (.bool false):=hb.cell 0;have y0:=hb.frozen 0;have hU:=upd_same hb;go_wp2;refine leaves_cons (f:=72) (args:=#[pp w.heap.size]) (by simp) (by simp [go_sem]) ?_;refine (catch72 ⟨w.heap.size,0,none⟩ false _ ?_ ?_).mono ?_
 ·simp [go_sem,z0]
 ·simp [go_sem,y0]
 rintro e u' w'' ⟨rfl,rfl,rfl⟩;have hb2:=hb.set_ 0 (.bool false);refine ⟨.bool false,by simp [results,Tryz.results38,go_sem,z0],rfl,w1,hR,hU.no (upd_same hb2)⟩
theorem guard41 {a b c:Value} {w:World} {R:World→Prop} (h:Calls Tryz.prog 41 #[a,b,c] (w.alloc (.cells #[.bool false] 4)) fun e w'=>e=.returned (.tuple #[])∧R w') (hB:∀w',R w'→Blk w' w.heap.size 4 #[.bool false]):
  Calls Tryz.prog 38 #[.func (.func 41) #[] #[a,b,c]] w fun e w'=>e=.returned (.bool false)∧∃w1,R w1∧Upd No w1 w':=by
 have hmf:∀(fn:Fn) (first cap:Array Value) (w:World),(Instr.makeFunc fn first cap).run Tryz.prog w=.ok (.func fn first cap) w:=fun _ _ _ _=>rfl;go_enter_defers Tryz.func38,Tryz.ntmps38;go_wp2_with fail
 refine h.mono ?_;rintro r w1 ⟨rfl,hR⟩;have hb:=hB w1 hR;have z0:w1.cell? ⟨w.heap.size,0,none⟩=some (.bool false):=hb.cell 0;have y0:=hb.frozen 0;have hU:=upd_same hb;go_wp2;refine leaves_cons (f:=72) (args:=#[pp w.heap.size]) (by simp) (by simp [go_sem]) ?_;refine (catch72 ⟨w.heap.size,0,none⟩ false _ ?_ ?_).mono ?_
 ·simp [go_sem,z0]
 ·simp [go_sem,y0]
 rintro e u' w'' ⟨rfl,rfl,rfl⟩;have hb2:=hb.set_ 0 (.bool false);refine ⟨.bool false,by simp [results,Tryz.results38,go_sem,z0],rfl,w1,hR,hU.no (upd_same hb2)⟩
theorem guard70 {a b c:Value} {w:World} {R:World→Prop} (h:Calls Tryz.prog 70 #[a,b,c] (w.alloc (.cells #[.bool false] 4)) fun e w'=>e=.returned (.tuple #[])∧R w') (hB:∀w',R w'→Blk w' w.heap.size 4 #[.bool false]):
  Calls Tryz.prog 38 #[.func (.func 70) #[] #[a,b,c]] w fun e w'=>e=.returned (.bool false)∧∃w1,R w1∧Upd No w1 w':=by
 have hmf:∀(fn:Fn) (first cap:Array Value) (w:World),(Instr.makeFunc fn first cap).run Tryz.prog w=.ok (.func fn first cap) w:=fun _ _ _ _=>rfl;go_enter_defers Tryz.func38,Tryz.ntmps38;go_wp2_with fail
 refine h.mono ?_;rintro r w1 ⟨rfl,hR⟩;have hb:=hB w1 hR;have z0:w1.cell? ⟨w.heap.size,0,none⟩=some (.bool false):=hb.cell 0;have y0:=hb.frozen 0;have hU:=upd_same hb;go_wp2;refine leaves_cons (f:=72) (args:=#[pp w.heap.size]) (by simp) (by simp [go_sem]) ?_;refine (catch72 ⟨w.heap.size,0,none⟩ false _ ?_ ?_).mono ?_
 ·simp [go_sem,z0]
 ·simp [go_sem,y0]
 rintro e u' w'' ⟨rfl,rfl,rfl⟩;have hb2:=hb.set_ 0 (.bool false);refine ⟨.bool false,by simp [results,Tryz.results38,go_sem,z0],rfl,w1,hR,hU.no (upd_same hb2)⟩
instance:Inhabited SCall:=⟨⟨0,0,0,0,[],Snap.zero⟩⟩
def FU (N:Nat) (w:World) (b k:Nat):Prop:=LU N w k∨k=b
theorem FU.lu {N:Nat} {w w' w'':World} {b:Nat} (h:Upd (FU N w b) w w') (k:Upd (LU N w') w' w''):Upd (FU N w b) w w'':=
 h.trans k fun j ⟨h1,T,h2,h3⟩=>by
  rcases Nat.lt_or_ge j w.heap.size with hl|hl
  ·refine .inl ?_;by_cases hj:FU N w b j
   ·exact hj
   ·obtain ⟨cs,fz,h2⟩:=h2;exact .inl ⟨h1,T,⟨cs,fz,(h.keep j hl hj).symm.trans h2⟩,h3⟩
  ·exact .inr hl
theorem FU.blk {N:Nat} {w w':World} {ab b:Nat} {T:TypeId} {cs:Array Value} (h:Upd (FU N w ab) w w') (hb:Blk w b T cs) (hT:logT T=false) (hne:b≠ab):Blk w' b T cs:=
 hb.upd h fun hk=>hk.elim (fun ⟨_,T',h2,h3⟩=>by
  by_cases e:T=T'
  ·subst e;rw [hT] at h3;cases h3
  ·exact hb.ty.ne_ h2 e rfl) hne
theorem inf43:(Tryz.prog.info? 43).map (·.size)=some 16:=by kernel_rfl
theorem inf69z:(Tryz.prog.info? 69).map (fun i=>(i.zero,i.size,i.bytes))=some (some (.agg Jb.nil.cells),21,320):=by kernel_rfl
section
variable {N:Nat} {w w' w'':World} {I I' I'':SId} {s s':StL} {v:Jd} {c:SCall} {A:SAns}
theorem clo70 {sb cb ab:Nat} {V0:Jb} (h:Je N w I s) (ho:s.Ok) (hv:v.Rd N w c) (hc:c.Ok) (hd:SDo s c=some (A,s')) (hs:Blk w sb 86 #[.pointer (some ⟨I.ms,0,none⟩)]) (hcb:Blk w cb 43 v.cells) (hab:Blk w ab 69 V0.cells) (hN:N≤ab):
  Calls Tryz.prog 70 #[.pointer (some ⟨sb,0,none⟩),.pointer (some ⟨cb,0,none⟩),.pointer (some ⟨ab,0,none⟩)] w fun e w'=>e=.returned (.tuple #[])∧(∃I',I'.ms=I.ms∧Je N w' I' s')∧(∃V:Jb,Blk w' ab 69 V.cells)∧Upd (FU N w ab) w w':=by
 have H:=qq (sto h ho hv hc hd);have z:w.cell? ⟨sb,0,none⟩=some (pp I.ms):=hs.cell 0;have HS:=qq (show (Tryz.prog.info? 43).map (·.size)=some v.cells.size from inf43);have HCB:=qq hcb;have HH:=qq h;have HAB:=qq hab;clear h ho hv hd hs hcb hab hc;go_enter Tryz.func70,Tryz.ntmps70
 go_wp2_with (first
  |(with_reducible refine Jm rfl 43 (.tmp 1) rfl cb v.cells rfl 43 _ HCB.out Tryz.underlying43 rfl HS.out ?_)
  |fail)
 refine H.out.mono ?_;rintro r w1 ⟨V,rfl,hV,I',hR,hSt⟩;have hU:=hSt.lu HH.out;have HB1:=qq (LU.blk hU HAB.out rfl);have HI:=qq V.inf;have HO:=qq V.one;go_wp2_with (with_reducible refine Jk rfl 69 (.tmp 2) (.tmp 5) rfl ab V.cells rfl rfl 69 V0.cells HB1.out HI.out rfl HO.out ?_)
 intro w2 hb2 hu2;go_wp2;go_end0;have hf:Fr N w1 w2:=hu2.fr (by rintro k rfl;exact HB1.out.mutb hN rfl)
 refine ⟨rfl,⟨I',hSt.ms,hR.updT hu2 hf (by
  rintro k T rfl ht hl;by_cases e:T=69
  ·subst e;cases hl
  ·exact ht.ne_ HB1.out.ty e rfl)⟩,⟨V,hb2⟩,?_⟩
 exact (hU.mono fun _ hk=>.inl hk).trans hu2 fun k hk=>.inl (.inr hk)
theorem FU.fold {w1 w2:World} {ab:Nat} (h:Upd (LU N w) w w1) (k:Upd (FU N w1 ab) w1 w2) (hab:w.heap.size≤ab):Upd (LU N w) w w2:=
 h.trans k fun j hj=>by
  rcases hj with ⟨h1,T,h2,h3⟩|rfl
  ·rcases Nat.lt_or_ge j w.heap.size with hl|hl
   ·refine .inl ?_;by_cases hj:LU N w j
    ·exact hj
    ·obtain ⟨cs,fz,h2⟩:=h2;exact ⟨h1,T,⟨cs,fz,(h.keep j hl hj).symm.trans h2⟩,h3⟩
   ·exact .inr hl
  ·exact .inr hab
def SRun:StL→List SCall→Option StL
 |s,[]=>some s
 |s,c::r=>(SDo s c).bind fun x=>SRun x.2 r
theorem SRun_snoc:∀(l:List SCall) (s:StL) (c:SCall),SRun s (l++[c])=(SRun s l).bind fun s1=>(SDo s1 c).map (·.2)
 |[],s,c=>by
  show (SDo s c).bind (fun x=>SRun x.2 [])=_;simp [SRun];cases SDo s c<;>rfl
 |d::l,s,c=>by
  show (SDo s d).bind (fun x=>SRun x.2 (l++[c]))=((SDo s d).bind fun x=>SRun x.2 l).bind _;cases h:SDo s d with
  |none=>rfl
  |some x=>exact SRun_snoc l x.2 c
def RdSC (N:Nat) (w:World) (sl:SlV) (V:Nat→Jd) (cs:List SCall):Prop:=
 Jg N w 16 sl cs.length (fun j i=>(V j).cells.getD i undef)∧∀j,j<cs.length→(V j).Rd N w (cs.getD j default)
theorem RdSC.fr {sl:SlV} {V:Nat→Jd} {cs:List SCall} (h:RdSC N w sl V cs) (hf:Fr N w w'):RdSC N w' sl V cs:=⟨h.1.fr hf,fun j hj=>(h.2 j hj).fr hf⟩
def StoredRel (N:Nat) (I:SId) (s:StL) (cs:List SCall) (w:World) (v i:Value) (wr:World):Prop:=
 ∃(k:Nat) (I':SId) (s':StL) (xs:List Value),k≤cs.length∧i=.int .i64 (k:Nat)∧SRun s (cs.take k)=some s'∧I'.ms=I.ms∧Je N wr I' s'∧wr.ownsRow w.heap.size 69 21 v k xs∧Upd (LU N w) w wr∧
  Blk wr w.heap.size 86 #[.pointer (some ⟨I.ms,0,none⟩)]
theorem storedW {sl:SlV} {V:Nat→Jd} {cs:List SCall} (h:Je N w I s) (hcs:RdSC N w sl V cs) (hlen:cs.length≤1000) (hok:∀j,j<cs.length→(cs.getD j default).Ok)
  (hrun:∀k s1,k<cs.length→SRun s (cs.take k)=some s1→s1.Ok∧∃x,SDo s1 (cs.getD k default)=some x):
  Calls Tryz.prog 37 #[.pointer (some ⟨I.ms,0,none⟩),.slice sl.A sl.n sl.c] w fun e w'=>∃t:Value,e=.returned (.tuple #[t,.bool true])∧(∃I' s',I'.ms=I.ms∧SRun s cs=some s'∧Je N w' I' s')∧Upd (LU N w) w w':=by
 have hmf:∀(fn:Fn) (first cap:Array Value) (w:World),(Instr.makeFunc fn first cap).run Tryz.prog w=.ok (.func fn first cap) w:=fun _ _ _ _=>rfl;have HH:=qq h;have HCS:=qq hcs;have HRUN:=qq hrun;have HOK:=qq hok;have HL:=qq hcs.1.len;have hN:=h.N;have hb:=Nat.le_trans h.N (Nat.le_of_lt h.mst.lt);have hsn:sl.n≤1000:=by have:=hcs.1.len;omega
 clear h hcs hrun hok;go_enter Tryz.func37,Tryz.ntmps37;go_wp2;go_loopw [6,12] (StoredRel N I s cs w) (fun _ i _=>sl.n - (intOf i).toNat)
 case atStart=>exact ⟨0,I,s,[],Nat.zero_le _,rfl,rfl,rfl,HH.out.no ((Upd.refl No w).alloc _),World.ownsRow_nil _ _ _ _,(Upd.refl _ w).alloc _,Blk.new w _ _⟩
 case round=>
  obtain ⟨k,I1,s1,xs,hk,rfl,hs1,hms,hR,hown,hu,hsb⟩:=hrel;by_cases hlt:k<sl.n
  ·obtain ⟨b,o,hA,hi,hc⟩:=(HCS.out.fr (LU.fr hu)).1.at_ (by omega);have hkc:k<cs.length:=by have:=HL.out;omega
   obtain ⟨hso,x,hx⟩:=HRUN.out k s1 hkc hs1;have hvk:=(HCS.out.fr (LU.fr hu)).2 k hkc;have hck:=HOK.out k hkc;have hcell:=fun i hi=>hc k i hlt hi;generalize V k=v at*
   have HR0:=qq (show wr.rangeAt b (o+k*16) [.int .i64 v.kind,.int .u64 v.a,.int .u64 v.b,.int .u64 v.c,v.es.v,.string v.sn.data,.int .u64 v.sn.index,.int .u64 v.sn.term,v.sn.cf.vo.v,v.sn.cf.le.v,v.sn.cf.ou.v,v.sn.cf.ne.v,.bool v.sn.cf.auto,.int .u64 v.x,.int .u64 v.y,.int .u64 v.z] from by
    intro j u hj;have hj16:j<16:=by
     rcases Nat.lt_or_ge j 16 with h|h
     ·exact h
     ·rw [List.getElem?_eq_none (by simpa using h)] at hj;cases hj
    have:=hcell j hj16
    rw [show o+k*16+j=o+(k*16+j) by omega,this];rw [show v.cells=(([.int .i64 v.kind,.int .u64 v.a,.int .u64 v.b,.int .u64 v.c,v.es.v,.string v.sn.data,.int .u64 v.sn.index,.int .u64 v.sn.term,v.sn.cf.vo.v,v.sn.cf.le.v,v.sn.cf.ou.v,v.sn.cf.ne.v,.bool v.sn.cf.auto,.int .u64 v.x,.int .u64 v.y,.int .u64 v.z]:List Value)).toArray from rfl,←hj];rw [List.getElem?_eq_getElem (by simpa using hj16)] at hj ⊢
    simp [Array.getD,hj16])
   have HI:=qq (show (Tryz.prog.info? 43).map (·.size)=some ([.int .i64 v.kind,.int .u64 v.a,.int .u64 v.b,.int .u64 v.c,v.es.v,.string v.sn.data,.int .u64 v.sn.index,.int .u64 v.sn.term,v.sn.cf.vo.v,v.sn.cf.le.v,v.sn.cf.ou.v,v.sn.cf.ne.v,.bool v.sn.cf.auto,.int .u64 v.x,.int .u64 v.y,.int .u64 v.z]:List Value).length from inf43);have U3:=qq (show Upd No wr ((wr.alloc (Obj.cells v.cells 43)).alloc (Obj.cells Jb.nil.cells 69)) from ((Upd.refl No wr).alloc _).alloc _);have B0:=qq (show Blk ((wr.alloc (Obj.cells v.cells 43)).alloc (Obj.cells Jb.nil.cells 69)) wr.heap.size 43 v.cells from (Blk.new_ rfl).alloc _);have B1:=qq (show Blk ((wr.alloc (Obj.cells v.cells 43)).alloc (Obj.cells Jb.nil.cells 69)) (wr.heap.size+1) 69 Jb.nil.cells from Blk.new_ (by simp));have BS:=qq (show Blk ((wr.alloc (Obj.cells v.cells 43)).alloc (Obj.cells Jb.nil.cells 69)) w.heap.size 86 #[pp I1.ms] from by rw [hms];exact (hsb.alloc _).alloc _);have HWE:((wr.alloc (Obj.cells #[.int .i64 v.kind,.int .u64 v.a,.int .u64 v.b,.int .u64 v.c,v.es.v,.string v.sn.data,.int .u64 v.sn.index,.int .u64 v.sn.term,v.sn.cf.vo.v,v.sn.cf.le.v,v.sn.cf.ou.v,v.sn.cf.ne.v,.bool v.sn.cf.auto,.int .u64 v.x,.int .u64 v.y,.int .u64 v.z] 43)).alloc (Obj.cells (Z69 0 0) 69))=((wr.alloc (Obj.cells v.cells 43)).alloc (Obj.cells Jb.nil.cells 69)):=rfl;obtain ⟨W,hW⟩:∃W,W=((wr.alloc (Obj.cells v.cells 43)).alloc (Obj.cells Jb.nil.cells 69)):=⟨_,rfl⟩;have hsz:W.heap.size=wr.heap.size+1+1:=by rw [hW];simp
   have hownW:W.ownsRow w.heap.size 69 21 u6 k xs:=by rw [hW];exact (hown.alloc _).alloc _
   have hown0:=qq (show ∀j,u6.ownBlock=some j→j<wr.heap.size from fun j hj=>(hown.lt j hj).2);rw [←hW] at HWE U3 B0 B1 BS;have HWE:=qq HWE;clear hW;have hu2:=hu.size;have hHC:=qq (clo70 (s':=x.2) (A:=x.1) (w:=W.alloc (.cells #[.bool false] 4)) ((hR.no U3.out).no ((Upd.refl No W).alloc _)) hso (((hvk.fr U3.out.fr0)).fr ((Upd.refl No W).alloc _).fr0) hck hx (BS.out.alloc _) (B0.out.alloc _) (B1.out.alloc _) (by omega));have HG:=qq (guard70 (w:=W) (R:=fun w1=>(∃I',I'.ms=I1.ms∧Je N w1 I' x.2)∧(∃V:Jb,Blk w1 (wr.heap.size+1) 69 V.cells)∧Upd (FU N (W.alloc (.cells #[.bool false] 4)) (wr.heap.size+1)) (W.alloc (.cells #[.bool false] 4)) w1) hHC.out (fun w1 h1=>FU.blk h1.2.2 (Blk.new W 4 _) rfl (by omega)));have HOWN:=qq hownW;have HUW:=qq ((hu.no U3.out).alloc (.cells #[.bool false] 4));have HSZ:=qq hsz;have HS1:=qq hs1;have HX:=qq hx;have HMS:=qq hms;have HBS:=qq (BS.out.alloc (.cells #[.bool false] 4));clear hR hown hu hsb hs1 hms hcell hso hx hvk hck hHC hownW hi hc hsz;rw [hA];go_wp2_with (with_reducible refine wpList_load_mid rfl 43 (.tmp 14) rfl b (o+k*16) rfl _ _ HR0.out Tryz.underlying43 rfl HI.out ?_)
   refine HG.out.mono ?_;rintro r w5 ⟨rfl,w4,⟨⟨I2,e2,R2⟩,⟨V2,hb2⟩,U4⟩,U5⟩;have HB5:=qq (show Blk w5 (wr.heap.size+1) 69 #[.int .i64 V2.err,.int .u64 V2.n,V2.es.v,.string V2.sn.data,.int .u64 V2.sn.index,.int .u64 V2.sn.term,V2.sn.cf.vo.v,V2.sn.cf.le.v,V2.sn.cf.ou.v,V2.sn.cf.ne.v,.bool V2.sn.cf.auto,.int .u64 V2.x,.int .u64 V2.y,.int .u64 V2.z,.bool V2.has,V2.cf.vo.v,V2.cf.le.v,V2.cf.ou.v,V2.cf.ne.v,.bool V2.cf.auto,.bool false] from hb2.upd U5 (fun h=>h));have HR5:=qq (R2.no U5);have HU5:=qq ((FU.fold HUW.out U4 (by omega)).no U5)
   have HOW5:=qq (show w5.ownsRow w.heap.size 69 21 u6 k xs from own_upd (own_upd (HOWN.out.alloc (.cells #[.bool false] 4)) U4 (by
    rintro j (⟨_,T,h2,h3⟩|rfl) ho
    ·have:=own_mutb (N:=0) (HOWN.out.alloc (.cells #[.bool false] 4)) rfl (Nat.zero_le _) j ho
     obtain ⟨h0,⟨rfl,_⟩|⟨g,cap,cur,rfl,_,hg,_⟩⟩:=HOWN.out.alloc (.cells #[.bool false] 4)
     ·cases ho
     ·cases ho;by_cases e:(69:TypeId)=T
      ·subst e;cases h3
      ·exact Ty.ne_ ⟨_,_,hg⟩ h2 e rfl
    ·have:=hown0.out _ ho
     omega)) U5 (fun _ h=>h.elim))
   have HBS5:=qq ((FU.blk U4 HBS.out rfl (by omega)).upd U5 (fun h=>h));have HI5:=qq (show (Tryz.prog.info? 69).map (·.size)=some (#[.int .i64 V2.err,.int .u64 V2.n,V2.es.v,.string V2.sn.data,.int .u64 V2.sn.index,.int .u64 V2.sn.term,V2.sn.cf.vo.v,V2.sn.cf.le.v,V2.sn.cf.ou.v,V2.sn.cf.ne.v,.bool V2.sn.cf.auto,.int .u64 V2.x,.int .u64 V2.y,.int .u64 V2.z,.bool V2.has,V2.cf.vo.v,V2.cf.le.v,V2.cf.ou.v,V2.cf.ne.v,.bool V2.cf.auto,.bool false]:Array Value).size from inf69);have hz5:=qq (show w.heap.size≤w5.heap.size from HU5.out.size);clear R2 hb2 U4 U5;have HE2:=qq e2;clear e2
   go_wp2_with (first
    |(with_reducible refine Jm rfl 69 (.tmp 9) rfl (wr.heap.size+1) #[.int .i64 V2.err,.int .u64 V2.n,V2.es.v,.string V2.sn.data,.int .u64 V2.sn.index,.int .u64 V2.sn.term,V2.sn.cf.vo.v,V2.sn.cf.le.v,V2.sn.cf.ou.v,V2.sn.cf.ne.v,.bool V2.sn.cf.auto,.int .u64 V2.x,.int .u64 V2.y,.int .u64 V2.z,.bool V2.has,V2.cf.vo.v,V2.cf.le.v,V2.cf.ou.v,V2.cf.ne.v,.bool V2.cf.auto,.bool false] rfl 69 _ HB5.out Tryz.underlying69 rfl HI5.out ?_)
    |(at_builtin;refine app_one rfl (.tmp 22) (.tmp 24) 88 rfl w.heap.size 69 (.agg Jb.nil.cells) 21 320 Tryz.underlying88 inf69z rfl (by omega) u6 k xs rfl HOW5.out #[.int .i64 V2.err,.int .u64 V2.n,V2.es.v,.string V2.sn.data,.int .u64 V2.sn.index,.int .u64 V2.sn.term,V2.sn.cf.vo.v,V2.sn.cf.le.v,V2.sn.cf.ou.v,V2.sn.cf.ne.v,.bool V2.sn.cf.auto,.int .u64 V2.x,.int .u64 V2.y,.int .u64 V2.z,.bool V2.has,V2.cf.vo.v,V2.cf.le.v,V2.cf.ou.v,V2.cf.ne.v,.bool V2.cf.auto,.bool false] rfl rfl (by intro u hu;simp at hu;rcases hu with rfl|rfl|rfl|rfl|rfl|rfl|rfl|rfl|rfl|rfl|rfl|rfl|rfl|rfl|rfl|rfl|rfl|rfl|rfl|rfl|rfl<;>rfl) (by simp only [maxLen];omega) (by omega) hz5.out ?_;intro v2 w6 ho6 hu6 hb6))
   have hS:SRun s (cs.take (k+1))=some x.2:=by
    rw [take_succ_getD hkc,SRun_snoc,HS1.out];show (SDo s1 (cs.getD k default)).map (·.2)=some x.2;rw [HX.out];rfl
   have hown5:∀j,u6.ownBlock=some j→Ty w5 j 69:=by
    intro j ho;obtain ⟨h0,⟨rfl,_⟩|⟨g,cap,cur,rfl,_,hg,_⟩⟩:=HOW5.out
    ·cases ho
    ·cases ho;exact ⟨_,_,hg⟩
   have hf6:Fr N w5 w6:=hu6.fr (own_mutb HOW5.out rfl hb);refine ⟨⟨k+1,I2,x.2,_,by omega,by simp,hS,HE2.out.trans HMS.out,HR5.out.updT hu6 hf6 ?_,ho6,HU5.out.trans hu6 (fun j hj=>.inr (HOW5.out.lt j hj).1),?_⟩,by simp [intOf];omega⟩
   ·intro j T hj ht hl;by_cases e:T=69
    ·subst e;cases hl
    ·exact ht.ne_ (hown5 j hj) e rfl
   ·have hb5:=HBS5.out;rw [HMS.out] at hb5;exact hb5.upd hu6 (fun hj=>hb5.ty.ne_ (hown5 _ hj) (by decide) rfl)
  ·have hkn:k=cs.length:=by have:=HL.out;omega
   subst hkn;rw [List.take_length] at hs1;have HFIN:=qq (And.intro hs1 (And.intro hms (And.intro hR hu)));clear hs1 hms hR hu hown hsb;go_wp2;go_ret2;exact ⟨u6,rfl,⟨I1,s1,HFIN.out.2.1,HFIN.out.1,HFIN.out.2.2.1⟩,HFIN.out.2.2.2⟩
end
section
variable {N:Nat} {w w' w'':World} {J J':LId} {g g':LgL} {v:Jc} {c:LCall} {A:LAns} {rb:Nat}
theorem z77' {x b:Value} {a t i:Int} {s:SlV} {X Y:Value} (h:∀o,Calls Tryz.prog 142 #[x,.agg #[.int .u64 a,.int .u64 t,.int .u64 i,.slice s.A s.n s.c],b] (w.alloc o) fun e w'=>e=.returned (.tuple #[X,Y])∧LgR N (w.alloc o) J g' w'):
  Calls Tryz.prog 77 #[x,.agg #[.int .u64 a,.int .u64 t,.int .u64 i,.slice s.A s.n s.c],b] w fun e w'=>e=.returned (.tuple #[X,Y])∧LgR N w J g' w':=
 (z77 (Q:=fun p q w'=>p=X∧q=Y∧LgR N w J g' w') fun o=>(h o).mono fun _ w1 ⟨h1,h2⟩=>⟨X,Y,h1,rfl,rfl,h2.1,LU.trans ((Upd.refl (LU N w) w).alloc o) h2.2⟩).mono fun _ _ ⟨_,_,h1,h2,h3,h4⟩=>⟨by rw [h1,h2,h3],h4⟩
theorem lg_2 (h:Jf N w J g) (ho:g.Ok) (hr:Blk w rb 94 #[.pointer (some ⟨J.I.ms,0,none⟩),.pointer (some ⟨J.l,0,none⟩)]) (hv:v.Rd N w c) (hc:c.Ok) (hk:v.kind=2) {X:Int} {Y:Bool} (hrow:rowB c.es=true) (hM:∀(W:World) (t:SlV),Jf N W J g→PArr N W 0 t c.es→(∀b o b' o',J.I.es.A=some ⟨b,o,none⟩→t.A=some ⟨b',o',none⟩→b≠b')→
   Calls Tryz.prog 142 #[.pointer (some ⟨J.l,0,none⟩),.agg #[.int .u64 c.a,.int .u64 c.pT,.int .u64 c.pI,.slice t.A t.n t.c],.int .u64 c.b] W fun e w'=>e=.returned (.tuple #[.int .u64 X,.bool Y])∧LgR N W J g' w'):
  Calls Tryz.prog 43 #[.pointer (some ⟨rb,0,none⟩),.agg v.cells] w fun e w'=>∃V:Ja,e=.returned (.agg V.cells)∧V.Rd N w' {LAns.none with n:=X,flag:=Y}∧LgR N w J g' w':=by
 have hok:AllOk c.es:=hc.es.ok hrow;have HT:=qq fun (w:World) (h:Jh N w v.es c.es) (hN:N≤w.heap.size)=>entriesTo N v.es c.es w h (fun j hj=>hok j (by have:=h.len;omega)) hN (by have:=h.len;have:=hc.len;omega);rw [←hv.a,←hv.b,←hv.pT,←hv.pI] at hM;have HM:=qq hM;clear hM hok hrow;have hB:=(Jn v w hr).1;have hR0:=qq (h.no (Jn v w hr).2);have hb:=Nat.le_of_lt h.lt;have hE:=Jp v w;have h0:=qq (Jn v w hr).2;have hv0:=qq (hv.fr (Jn v w hr).2.fr0);have HC:=qq hc;have HO:=qq ho;have zr:w.cell? ⟨rb,1,none⟩=some (pp J.l):=hr.cell 1;have dr:=fun (o1 o2:Obj)=>cell2 (o1:=o1) (o2:=o2) zr;rw [hk] at hE;obtain ⟨W,hW⟩:∃W,W=logW v w:=⟨_,rfl⟩;rw [←hW] at hB hR0 hE h0 hv0;have HB:=qq hB;have HE:=qq hE;have hNW:=qq (Nat.le_trans hb h0.out.size);clear h ho hB hE hW hv hc hr;unfold Jc.cells;rw [hk];go_enter Tryz.func43,Tryz.ntmps43;go_wp2_with fail
 rw [HE.out];clear zr dr
 have HX:=qq fun (W':World) (hu:Upd (FU N W (w.heap.size+1+1)) W W')=>(show W'.cell? ⟨w.heap.size,1,none⟩=some (.int .u64 v.a)∧W'.cell? ⟨w.heap.size,2,none⟩=some (.int .u64 v.b)∧W'.cell? ⟨w.heap.size,7,none⟩=some (.int .u64 v.pT)∧W'.cell? ⟨w.heap.size,8,none⟩=some (.int .u64 v.pI)∧W'.cell? ⟨w.heap.size,9,none⟩=some v.es.v∧Upd (FU N W (w.heap.size+1+1)) W W' from
  have hq:Blk W' w.heap.size 45 v.cells:=HB.out.b0.upd hu (by
   rintro (⟨_,T',h2,h3⟩|e)
   ·by_cases e:(45:TypeId)=T'
    ·subst e;cases h3
    ·exact HB.out.b0.ty.ne_ h2 e rfl
   ·omega)
  ⟨hq.cell 1,hq.cell 2,hq.cell 7,hq.cell 8,hq.cell 9,hu⟩)
 have HX0:=qq (HX.out W.drew ((Upd.refl _ W).drew));have HTD:=qq (HT.out W.drew (hv0.out.es.fr ((Upd.refl No W).drew).fr0) hNW.out);have HRD:=qq (hR0.out.no ((Upd.refl No W).drew));go_region_held3 (fun W'=>W'.cell? ⟨w.heap.size,1,none⟩=some (.int .u64 v.a)∧W'.cell? ⟨w.heap.size,2,none⟩=some (.int .u64 v.b)∧W'.cell? ⟨w.heap.size,7,none⟩=some (.int .u64 v.pT)∧W'.cell? ⟨w.heap.size,8,none⟩=some (.int .u64 v.pI)∧W'.cell? ⟨w.heap.size,9,none⟩=some v.es.v∧Upd (FU N W (w.heap.size+1+1)) W W')
  (first
   |(with_reducible exact HX0.out)
   |(exact HX.out _ (Upd.no gU u1))
   |(exact HX.out _ (Upd.no gU u2))
   |(exact HX.out _ (FU.lu gU hL.2))
   |(exact HX.out _ ((FU.lu gU hL.2).setCell (.inl (.inr rfl)) _))
   |(exact HX.out _ (((FU.lu gU hL.2).setCell (.inl (.inr rfl)) _).setCell (.inl (.inr rfl)) _)))
  (first
   |(go_at_call 76;have gU:=(‹_=_∧_=_∧_=_∧_=_∧_=_∧Upd (FU N W (w.heap.size+1+1)) W _› :_∧_∧_∧_∧_∧_).2.2.2.2.2
     first
      |((with_reducible refine HTD.out.mono ?_);rintro r wA ⟨t,rfl,hP,u1,hnew⟩))
   |(go_at_call 78;have gU:=(‹_=_∧_=_∧_=_∧_=_∧_=_∧Upd (FU N W (w.heap.size+1+1)) W _› :_∧_∧_∧_∧_∧_).2.2.2.2.2
     first
      |((with_reducible refine (z78 _).mono ?_);rintro r wB ⟨rfl,u2⟩))
   |(go_at_call 77;have gU:=(‹_=_∧_=_∧_=_∧_=_∧_=_∧Upd (FU N W (w.heap.size+1+1)) W _› :_∧_∧_∧_∧_∧_).2.2.2.2.2
     first
      |((with_reducible refine (z77' (fun o=>HM.out _ t ((HRD.out.no u1).no (u2.alloc o)) (PArr.upd hP (u2.alloc o) (u2.alloc o).fr0 (fun _ _ _ h=>h)) (fun b o b' o' h1 h2=>by have h3:=HRD.out.st_lt h1;have h4:=hnew b' o' h2;omega))).mono ?_);rintro r wC ⟨rfl,hL⟩;have hB3:=(HB.out.lu (N:=N) (((Upd.refl (LU N W) W).drew.no u1).no u2)).lu hL.2;have z1:wC.cell? ⟨w.heap.size+1+1,1,none⟩=some (.int .u64 0):=hB3.b2.cell 1;have z3:wC.cell? ⟨w.heap.size+1+1,3,none⟩=some (.bool false):=hB3.b2.cell 3;have y:=hB3.b2.frozen)))
 obtain ⟨⟨J1,e1,R1⟩,U1⟩:=hL;have HB1:=qq hB3;have HR1:=qq R1;have HS1:=qq (LU.trans ((h0.out.ofNo:Upd (LU N w) w W).no ((((Upd.refl No W).drew).no u1).no u2)) U1);have E1:=qq e1;clear R1 U1 e1 u1 u2 hP hnew gU hB3;obtain ⟨w2,hw2⟩:∃W,W=((wC.setCell ⟨w.heap.size+1+1,1,none⟩ (.int .u64 X)).setCell ⟨w.heap.size+1+1,3,none⟩ (.bool Y)):=⟨_,rfl⟩;rw [←hw2];have HB2:=qq (show LogB v w.heap.size w2 {Ja.nil with n:=X,flag:=Y} rb J by rw [hw2];exact ((HB1.out.set 1 (.int .u64 X) {Ja.nil with n:=X} rfl).set 3 (.bool Y) {Ja.nil with n:=X,flag:=Y} rfl));have X2:=HB1.out.many (w2:=w2) (by rw [hw2];exact (((Upd.refl (fun k=>k=w.heap.size+1+1) wC).setIn rfl 1 _).setIn rfl 3 _)) hb (Nat.le_refl _) HR1.out HS1.out;have HR2:=qq X2.1;have HS2:=qq X2.2.1;have HF2:=qq X2.2.2;clear X2 hw2 z1 z3 y;go_wp2_with fail
 have HV2:=qq (show ({Ja.nil with n:=X,flag:=Y}:Ja).Rd N w2 {LAns.none with n:=X,flag:=Y} from ⟨rfl,rfl,rfl,rfl,rfl,rfl,Jg.nil none,SnV.Js N w2⟩);refine (errOf0 w2).mono ?_;rintro r w3 ⟨rfl,rfl⟩;have z0:w2.cell? ⟨w.heap.size+1+1,0,none⟩=some (.int .i64 0):=HB2.out.b2.cell 0;have y0:=HB2.out.b2.frozen 0;obtain ⟨w3,hw3⟩:∃W,W=w2.setCell {block:=w.heap.size+1+1,off:=0} (Value.int IntKind.i64 (0)):=⟨_,rfl⟩;have HB3:=qq (show LogB v w.heap.size w3 { {Ja.nil with n:=X,flag:=Y} with err:=0} rb J by rw [hw3];exact HB2.out.set 0 _ _ rfl);have HS:=qq (Ja.inf { {Ja.nil with n:=X,flag:=Y} with err:=0});have HONE:=qq (Ja.one { {Ja.nil with n:=X,flag:=Y} with err:=0});have HW3:=qq hw3;clear hw3
 go_wp2_with (first
  |(with_reducible refine Jm rfl 48 (.tmp 6) rfl (w.heap.size+1+1) { {Ja.nil with n:=X,flag:=Y} with err:=0}.cells rfl 48 _ (HW3.out ▸HB3.out.b2) Tryz.underlying48 rfl HS.out ?_)
  |(with_reducible refine Jk rfl 48 (.tmp 4) (.tmp 328) rfl (w.heap.size+1) { {Ja.nil with n:=X,flag:=Y} with err:=0}.cells rfl rfl 48 Ja.nil.cells (HW3.out ▸HB3.out.b1) HS.out rfl HONE.out ?_))
 intro w4 hb4 hu4;go_wp2;refine Ja.ret { {Ja.nil with n:=X,flag:=Y} with err:=0} rfl (w.heap.size+1) rfl hb4 rfl ?_;have X:=HB2.out.fin hb (Nat.le_refl _) HV2.out HR2.out HS2.out hu4;exact ⟨_,rfl,X.1,⟨⟨_,E1.out,X.2.1⟩,X.2.2⟩⟩
end
section
variable {N:Nat} {w w' w'':World} {J J':LId} {g g':LgL} {v:Jc} {c:LCall} {A:LAns} {rb:Nat}
theorem Blk.rangeIn {b o n:Nat} {T:TypeId} {cs:Array Value} {vs:List Value} (h:Blk w b T cs) (hv:∀j,j<n→cs[o+j]? =vs[j]?) (hn:vs.length=n):w.rangeAt b o vs:=fun j u hj=>by
 have hjn:j<n:=by
  rcases Nat.lt_or_ge j n with h'|h'
  ·exact h'
  ·rw [List.getElem?_eq_none (by omega)] at hj;cases hj
 rw [h.cell,hv j hjn,hj]
theorem st_range (v:Jc):∀j,j<16→v.cells[18+j]? =([.int .i64 v.st.kind,.int .u64 v.st.a,.int .u64 v.st.b,.int .u64 v.st.c,.slice v.st.es.A v.st.es.n v.st.es.c,.string v.st.sn.data,.int .u64 v.st.sn.index,.int .u64 v.st.sn.term,.slice v.st.sn.cf.vo.A v.st.sn.cf.vo.n v.st.sn.cf.vo.c,.slice v.st.sn.cf.le.A v.st.sn.cf.le.n v.st.sn.cf.le.c,.slice v.st.sn.cf.ou.A v.st.sn.cf.ou.n v.st.sn.cf.ou.c,.slice v.st.sn.cf.ne.A v.st.sn.cf.ne.n v.st.sn.cf.ne.c,.bool v.st.sn.cf.auto,.int .u64 v.st.x,.int .u64 v.st.y,.int .u64 v.st.z]:List Value)[j]?:=by
 intro j hj;match j,hj with
 |0,_=>rfl
 |1,_=>rfl
 |2,_=>rfl
 |3,_=>rfl
 |4,_=>rfl
 |5,_=>rfl
 |6,_=>rfl
 |7,_=>rfl
 |8,_=>rfl
 |9,_=>rfl
 |10,_=>rfl
 |11,_=>rfl
 |12,_=>rfl
 |13,_=>rfl
 |14,_=>rfl
 |15,_=>rfl
 |_+16,h=>exact absurd h (by omega)
theorem lg_34 (h:Jf N w J g) (ho:g.Ok) (hr:Blk w rb 94 #[.pointer (some ⟨J.I.ms,0,none⟩),.pointer (some ⟨J.l,0,none⟩)]) (hv:v.Rd N w c) (hc:c.Ok) (hk:v.kind=34) {A1:SAns} {s':StL} (hd:SDo g.s c.st=some (A1,s')):
  Calls Tryz.prog 43 #[.pointer (some ⟨rb,0,none⟩),.agg v.cells] w fun e w'=>∃V:Ja,e=.returned (.agg V.cells)∧V.Rd N w' {LAns.none with err:=(A1.lim c.st).err,n:=(A1.lim c.st).n,es:=(A1.lim c.st).es,snap:=(A1.lim c.st).snap}∧LgR N w J {g with s:=s'} w':=by
 have HF:=qq fun (w:World) (h:Jf N w J g) (hv:v.st.Rd N w c.st)=>(show Calls Tryz.prog 71 #[pp J.I.ms,.agg #[.int .i64 v.st.kind,.int .u64 v.st.a,.int .u64 v.st.b,.int .u64 v.st.c,v.st.es.v,.string v.st.sn.data,.int .u64 v.st.sn.index,.int .u64 v.st.sn.term,v.st.sn.cf.vo.v,v.st.sn.cf.le.v,v.st.sn.cf.ou.v,v.st.sn.cf.ne.v,.bool v.st.sn.cf.auto,.int .u64 v.st.x,.int .u64 v.st.y,.int .u64 v.st.z]] w fun e w'=>∃V:Jb,e=.returned (.agg V.cells)∧V.Rd N w' (A1.lim c.st)∧LgR N w J {g with s:=s'} w' from
  (sto h.st ho.s hv hc.st hd).mono fun _ _ ⟨V,h1,h2,I',h3,h4⟩=>⟨V,h1,h2,⟨⟨{J with I:=I'},(by show (J.l,I'.ms)=(J.l,J.I.ms);rw [h4.ms]),(h.stored h3 h4).1⟩,(h.stored h3 h4).2⟩⟩)
 generalize A1.lim c.st=A2 at*;have hB:=(Jn v w hr).1;have hR0:=qq (h.no (Jn v w hr).2);have hb:=Nat.le_of_lt h.lt;have hE:=Jp v w;have h0:=qq (Jn v w hr).2;have hv0:=qq (hv.fr (Jn v w hr).2.fr0);have HC:=qq hc;have HO:=qq ho;have zr:w.cell? ⟨rb,1,none⟩=some (pp J.l):=hr.cell 1;have dr:=fun (o1 o2:Obj)=>cell2 (o1:=o1) (o2:=o2) zr;rw [hk] at hE;obtain ⟨W,hW⟩:∃W,W=logW v w:=⟨_,rfl⟩;rw [←hW] at hB hR0 hE h0 hv0;have HB:=qq hB;have HE:=qq hE;have hNW:=qq (Nat.le_trans hb h0.out.size);clear h ho hB hE hW hv hc hr;unfold Jc.cells;rw [hk];go_enter Tryz.func43,Tryz.ntmps43;go_wp2_with fail
 rw [HE.out];clear zr dr
 have HX:=qq fun (W':World) (hu:Upd (LU N W) W W')=>(show W'.cell? ⟨rb,0,none⟩=some (pp J.I.ms)∧W'.rangeAt w.heap.size 18 [.int .i64 v.st.kind,.int .u64 v.st.a,.int .u64 v.st.b,.int .u64 v.st.c,v.st.es.v,.string v.st.sn.data,.int .u64 v.st.sn.index,.int .u64 v.st.sn.term,v.st.sn.cf.vo.v,v.st.sn.cf.le.v,v.st.sn.cf.ou.v,v.st.sn.cf.ne.v,.bool v.st.sn.cf.auto,.int .u64 v.st.x,.int .u64 v.st.y,.int .u64 v.st.z]∧Upd (LU N W) W W' from
  have hq:=HB.out.lu hu
  ⟨hq.br.cell 0,hq.b0.rangeIn (st_range v) rfl,hu⟩)
 have HTD:=qq fun (W':World) (hu:Upd No W W')=>HF.out W' (hR0.out.no hu) (hv0.out.st.fr hu.fr0);have HI43:=qq (show (Tryz.prog.info? 43).map (·.size)=some ([.int .i64 v.st.kind,.int .u64 v.st.a,.int .u64 v.st.b,.int .u64 v.st.c,v.st.es.v,.string v.st.sn.data,.int .u64 v.st.sn.index,.int .u64 v.st.sn.term,v.st.sn.cf.vo.v,v.st.sn.cf.le.v,v.st.sn.cf.ou.v,v.st.sn.cf.ne.v,.bool v.st.sn.cf.auto,.int .u64 v.st.x,.int .u64 v.st.y,.int .u64 v.st.z]:List Value).length from inf43);have HWS:=qq (show w.heap.size+1<W.heap.size from HB.out.b1.lt);refine wp_region_held_drew (S:=fun W'=>W'.cell? ⟨rb,0,none⟩=some (pp J.I.ms)∧W'.rangeAt w.heap.size 18 [.int .i64 v.st.kind,.int .u64 v.st.a,.int .u64 v.st.b,.int .u64 v.st.c,v.st.es.v,.string v.st.sn.data,.int .u64 v.st.sn.index,.int .u64 v.st.sn.term,v.st.sn.cf.vo.v,v.st.sn.cf.le.v,v.st.sn.cf.ou.v,v.st.sn.cf.ne.v,.bool v.st.sn.cf.auto,.int .u64 v.st.x,.int .u64 v.st.y,.int .u64 v.st.z]∧Upd (LU N W) W W') (by kernel_rfl) (HX.out _ ((Upd.refl _ W).drew)) (fun hHeld=>?_);refine wpAnyH_take (i:=0) (v:=pp rb) rfl (by kernel_rfl) (by kernel_rfl) (by kernel_rfl) (fun _ _ _ h=>h) (Or.inl ⟨by rfl,by intro W' hS;have hS0:=hS.1;go_simp⟩) hHeld ?_;try simp only [NR]
 refine wpAnyH_take (i:=1) (v:=pp rb) rfl (by kernel_rfl) (by kernel_rfl) (by kernel_rfl) (fun _ _ _ h=>h) (Or.inl ⟨by rfl,by intro W' hS;have hS0:=hS.1;go_simp⟩) hHeld ?_;try simp only [NR]
 refine wpAnyH_take (i:=2) (v:=pp rb) rfl (by kernel_rfl) (by kernel_rfl) (by kernel_rfl) (fun _ _ _ h=>h) (Or.inl ⟨by rfl,by intro W' hS;have hS0:=hS.1;go_simp⟩) hHeld ?_;try simp only [NR]
 refine wpAnyH_take (i:=3) (v:=pp J.I.ms) rfl (by kernel_rfl) (by kernel_rfl) (by kernel_rfl) (fun _ _ _ h=>h) (Or.inl ⟨by rfl,by intro W' hS;have hS0:=hS.1;go_simp⟩) hHeld ?_;try simp only [NR]
 refine wpAnyH_take (i:=4) (v:=.pointer (some ⟨w.heap.size,18,none⟩)) rfl (by kernel_rfl) (by kernel_rfl) (by kernel_rfl) (fun _ _ _ h=>h) (Or.inl ⟨by rfl,by intro W' hS;have hS0:=hS.1;go_simp⟩) hHeld ?_;try simp only [NR]
 refine wpAnyH_take (i:=5) (v:=.agg ([.int .i64 v.st.kind,.int .u64 v.st.a,.int .u64 v.st.b,.int .u64 v.st.c,v.st.es.v,.string v.st.sn.data,.int .u64 v.st.sn.index,.int .u64 v.st.sn.term,v.st.sn.cf.vo.v,v.st.sn.cf.le.v,v.st.sn.cf.ou.v,v.st.sn.cf.ne.v,.bool v.st.sn.cf.auto,.int .u64 v.st.x,.int .u64 v.st.y,.int .u64 v.st.z]:List Value).toArray) rfl (by kernel_rfl) (by kernel_rfl) (by kernel_rfl) (fun _ _ _ h=>h) (yieldsIf_load_mid (by rfl) 43 (.tmp 313) rfl w.heap.size 18 rfl [.int .i64 v.st.kind,.int .u64 v.st.a,.int .u64 v.st.b,.int .u64 v.st.c,v.st.es.v,.string v.st.sn.data,.int .u64 v.st.sn.index,.int .u64 v.st.sn.term,v.st.sn.cf.vo.v,v.st.sn.cf.le.v,v.st.sn.cf.ou.v,v.st.sn.cf.ne.v,.bool v.st.sn.cf.auto,.int .u64 v.st.x,.int .u64 v.st.y,.int .u64 v.st.z] _ (fun W' hS=>hS.2.1) Tryz.underlying43 rfl HI43.out) hHeld ?_;try simp only [NR]
 refine wpAnyH_ready (rs:=[6,7]) (by kernel_rfl) (by simp) ?_;refine AllReadyH.cons (o:=_) rfl (fun K hK=>?_) (AllReadyH.cons (o:=_) rfl (fun K hK=>?_) AllReadyH.nil)
 ·rw [if_pos (by rfl)];go_simp;refine (HTD.out _ ((Upd.refl No W).drew)).mono ?_;rintro r wA ⟨V,rfl,hV,hL⟩;obtain ⟨⟨J1,e1,R1⟩,U1⟩:=hL;have HV:=qq hV;have E1:=qq e1;have R2:=qq R1;have UL1:=qq U1;have HSA:=qq (LU.trans (Upd.ofNo ((Upd.refl No W).drew)) U1);have HB2:=qq ((HB.out.lu (N:=N) (Upd.ofNo ((Upd.refl No W).drew))).lu U1);clear hV e1 R1 U1;go_wp2_with fail
  refine hK.out _ _ (HX.out _ HSA.out) (fun hHeld=>?_);clear hK;try simp only [NR]
  refine wpAnyH_ready (rs:=[7]) (by kernel_rfl) (by simp) ?_;refine ac rfl fun K hK=>?_;rw [if_pos (by rfl)];go_simp;refine hK.out _ _ (HX.out _ (HSA.out.alloc _)) (fun hHeld=>?_);clear hK;try simp only [NR]
  have HBN:=qq (Blk.new wA 69 Jb.nil.cells);have HSZ:=qq HSA.out.size;have R2:=qq (R2.out.no ((Upd.refl No wA).alloc (.cells Jb.nil.cells 69)));have HB2:=qq (HB2.out.lu (N:=N) ((Upd.refl _ wA).alloc (.cells Jb.nil.cells 69)));have HV:=qq (HV.out.fr ((Upd.refl No wA).alloc (.cells Jb.nil.cells 69)).fr0);have HSB:=qq (HSA.out.alloc (.cells Jb.nil.cells 69));refine wpAnyH_ready (rs:=[8]) (by kernel_rfl) (by simp) ?_;refine ac rfl fun K hK=>?_;refine step_store_blk rfl 69 (.tmp 11) (.tmp 315) rfl wA.heap.size V.cells rfl rfl 69 Jb.nil.cells HBN.out V.inf rfl V.one ?_;intro w3 hb3 hu3;have U3:Upd (LU N W) W w3:=HSB.out.trans hu3 (by rintro k rfl;exact .inr (HSZ.out));refine hK.out _ _ (HX.out _ U3) (fun hHeld=>?_);clear hK hHeld;try simp only [NR]
  refine wpAnyH_done (by kernel_rfl) ?_ _;have hf3:Fr N (wA.alloc (.cells Jb.nil.cells 69)) w3:=hu3.fr (by rintro k rfl;exact HBN.out.mutb (Nat.le_trans hNW.out HSZ.out) rfl)
  have R3:=qq (R2.out.upd hu3 hf3 (by
   rintro k T rfl ht hl;by_cases e:T=69
   ·subst e;cases hl
   ·exact ht.ne_ HBN.out.ty e rfl))
  have HV3:=qq (HV.out.fr hf3);have HB3:=qq (HB2.out.b1.upd hu3 (fun (e:w.heap.size+1=wA.heap.size)=>by have:=HWS.out;have:=HSZ.out;omega));have zz0:w3.cell? ⟨wA.heap.size,0,none⟩=some (.int .i64 V.err):=hb3.cell 0;have zz1:w3.cell? ⟨wA.heap.size,1,none⟩=some (.int .u64 V.n):=hb3.cell 1;have zz2:w3.cell? ⟨wA.heap.size,2,none⟩=some V.es.v:=hb3.cell 2;have zz3:w3.cell? ⟨wA.heap.size,3,none⟩=some (.string V.sn.data):=hb3.cell 3;have zz4:w3.cell? ⟨wA.heap.size,4,none⟩=some (.int .u64 V.sn.index):=hb3.cell 4;have zz5:w3.cell? ⟨wA.heap.size,5,none⟩=some (.int .u64 V.sn.term):=hb3.cell 5;have zz6:w3.cell? ⟨wA.heap.size,6,none⟩=some V.sn.cf.vo.v:=hb3.cell 6;have zz7:w3.cell? ⟨wA.heap.size,7,none⟩=some V.sn.cf.le.v:=hb3.cell 7;have zz8:w3.cell? ⟨wA.heap.size,8,none⟩=some V.sn.cf.ou.v:=hb3.cell 8;have zz9:w3.cell? ⟨wA.heap.size,9,none⟩=some V.sn.cf.ne.v:=hb3.cell 9;have zz10:w3.cell? ⟨wA.heap.size,10,none⟩=some (.bool V.sn.cf.auto):=hb3.cell 10;have HS3:=qq (LU.trans h0.out.ofNo U3);have HI3:=qq (Ja.inf {Ja.nil with err:=V.err,n:=V.n,es:=V.es,sn:=V.sn});have HO3:=qq (Ja.one {Ja.nil with err:=V.err,n:=V.n,es:=V.es,sn:=V.sn});clear hb3 hf3 U3 hu3;go_wp2_with (with_reducible refine Jk rfl 48 (.tmp 4) (.tmp 324) rfl (w.heap.size+1) {Ja.nil with err:=V.err,n:=V.n,es:=V.es,sn:=V.sn}.cells rfl rfl 48 Ja.nil.cells HB3.out HI3.out rfl HO3.out ?_)
  intro w4 hb4 hu4;go_wp2;refine Ja.ret {Ja.nil with err:=V.err,n:=V.n,es:=V.es,sn:=V.sn} rfl (w.heap.size+1) rfl hb4 rfl ?_;have hf4:Fr N w3 w4:=hu4.fr (by rintro k rfl;exact HB3.out.mutb (by omega) rfl)
  have R4:=R3.out.upd hu4 hf4 (by
   rintro k T rfl ht hl;by_cases e:T=48
   ·subst e;cases hl
   ·exact ht.ne_ HB3.out.ty e rfl)
  have hV4:=HV3.out.fr hf4;exact ⟨_,rfl,⟨hV4.err,hV4.n,rfl,rfl,rfl,rfl,hV4.es,hV4.sn⟩,⟨⟨_,E1.out,R4⟩,HS3.out.trans hu4 (by rintro k rfl;exact .inr (by omega))⟩⟩
 ·rw [if_pos (by rfl)];go_simp;refine hK.out _ _ (HX.out _ (((Upd.refl _ W).drew).alloc _)) (fun hHeld=>?_);clear hK;try simp only [NR]
  refine wpAnyH_ready (rs:=[6]) (by kernel_rfl) (by simp) ?_;refine ac rfl fun K hK=>?_;rw [if_pos (by rfl)];go_simp;refine (HTD.out _ (((Upd.refl No W).alloc (.cells Jb.nil.cells 69)).drew)).mono ?_;rintro r wA ⟨V,rfl,hV,hL⟩;obtain ⟨⟨J1,e1,R1⟩,U1⟩:=hL;have HV:=qq hV;have E1:=qq e1;have R2:=qq R1;have UL1:=qq U1;have HSA:=qq (LU.trans (Upd.ofNo (((Upd.refl No W).alloc (.cells Jb.nil.cells 69)).drew)) U1);have HB2:=qq ((HB.out.lu (N:=N) (Upd.ofNo (((Upd.refl No W).alloc (.cells Jb.nil.cells 69)).drew))).lu U1);clear hV e1 R1 U1;go_wp2_with fail
  have HBN:=qq (LU.blk UL1.out ((Blk.new W 69 Jb.nil.cells).drew) rfl);refine hK.out _ _ (HX.out _ HSA.out) (fun hHeld=>?_);clear hK;try simp only [NR]
  refine wpAnyH_ready (rs:=[8]) (by kernel_rfl) (by simp) ?_;refine ac rfl fun K hK=>?_;refine step_store_blk rfl 69 (.tmp 11) (.tmp 315) rfl W.heap.size V.cells rfl rfl 69 Jb.nil.cells HBN.out V.inf rfl V.one ?_;intro w3 hb3 hu3;have U3:Upd (LU N W) W w3:=HSA.out.trans hu3 (by rintro k rfl;exact .inr (Nat.le_refl _));refine hK.out _ _ (HX.out _ U3) (fun hHeld=>?_);clear hK hHeld;try simp only [NR]
  refine wpAnyH_done (by kernel_rfl) ?_ _;have hf3:Fr N wA w3:=hu3.fr (by rintro k rfl;exact HBN.out.mutb hNW.out rfl)
  have R3:=qq (R2.out.upd hu3 hf3 (by
   rintro k T rfl ht hl;by_cases e:T=69
   ·subst e;cases hl
   ·exact ht.ne_ HBN.out.ty e rfl))
  have HV3:=qq (HV.out.fr hf3);have HB3:=qq (HB2.out.b1.upd hu3 (fun (e:w.heap.size+1=W.heap.size)=>by have:=HWS.out;omega));have zz0:w3.cell? ⟨W.heap.size,0,none⟩=some (.int .i64 V.err):=hb3.cell 0;have zz1:w3.cell? ⟨W.heap.size,1,none⟩=some (.int .u64 V.n):=hb3.cell 1;have zz2:w3.cell? ⟨W.heap.size,2,none⟩=some V.es.v:=hb3.cell 2;have zz3:w3.cell? ⟨W.heap.size,3,none⟩=some (.string V.sn.data):=hb3.cell 3;have zz4:w3.cell? ⟨W.heap.size,4,none⟩=some (.int .u64 V.sn.index):=hb3.cell 4;have zz5:w3.cell? ⟨W.heap.size,5,none⟩=some (.int .u64 V.sn.term):=hb3.cell 5;have zz6:w3.cell? ⟨W.heap.size,6,none⟩=some V.sn.cf.vo.v:=hb3.cell 6;have zz7:w3.cell? ⟨W.heap.size,7,none⟩=some V.sn.cf.le.v:=hb3.cell 7;have zz8:w3.cell? ⟨W.heap.size,8,none⟩=some V.sn.cf.ou.v:=hb3.cell 8;have zz9:w3.cell? ⟨W.heap.size,9,none⟩=some V.sn.cf.ne.v:=hb3.cell 9;have zz10:w3.cell? ⟨W.heap.size,10,none⟩=some (.bool V.sn.cf.auto):=hb3.cell 10;have HS3:=qq (LU.trans h0.out.ofNo U3);have HI3:=qq (Ja.inf {Ja.nil with err:=V.err,n:=V.n,es:=V.es,sn:=V.sn});have HO3:=qq (Ja.one {Ja.nil with err:=V.err,n:=V.n,es:=V.es,sn:=V.sn});clear hb3 hf3 U3 hu3;go_wp2_with (with_reducible refine Jk rfl 48 (.tmp 4) (.tmp 324) rfl (w.heap.size+1) {Ja.nil with err:=V.err,n:=V.n,es:=V.es,sn:=V.sn}.cells rfl rfl 48 Ja.nil.cells HB3.out HI3.out rfl HO3.out ?_)
  intro w4 hb4 hu4;go_wp2;refine Ja.ret {Ja.nil with err:=V.err,n:=V.n,es:=V.es,sn:=V.sn} rfl (w.heap.size+1) rfl hb4 rfl ?_;have hf4:Fr N w3 w4:=hu4.fr (by rintro k rfl;exact HB3.out.mutb (by omega) rfl)
  have R4:=R3.out.upd hu4 hf4 (by
   rintro k T rfl ht hl;by_cases e:T=48
   ·subst e;cases hl
   ·exact ht.ne_ HB3.out.ty e rfl)
  have hV4:=HV3.out.fr hf4;exact ⟨_,rfl,⟨hV4.err,hV4.n,rfl,rfl,rfl,rfl,hV4.es,hV4.sn⟩,⟨⟨_,E1.out,R4⟩,HS3.out.trans hu4 (by rintro k rfl;exact .inr (by omega))⟩⟩
end
end Go.Proofs.YtmagnkjodjmojaaGreat
