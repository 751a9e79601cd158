/- A part of the proof of FnLog: laws and walks, with their conditions written at each. -/
import Derived.Test.YtmagnkjodjmojaaGreatQ09
import Derived.Test.YtmagnkjodjmojaaGreatQ13
import Derived.Test.YtmagnkjodjmojaaGreatQ21
set_option maxRecDepth 20000
set_option maxHeartbeats 4000000
set_option linter.all false
namespace Go.Proofs.YtmagnkjodjmojaaGreat
open Go.RowKit
instance:Inhabited LCall:=⟨⟨0,0,0,0,false,0,0,0,0,[],Snap.zero,default⟩⟩
instance:Inhabited Ja:=⟨Ja.nil⟩
def RdLC (N:Nat) (w:World) (sl:SlV) (V:Nat→Jc) (cs:List LCall):Prop:=
 Jg N w 34 sl cs.length (fun j i=>(V j).cells.getD i undef)∧∀j,j<cs.length→(V j).Rd N w (cs.getD j default)
theorem RdLC.fr {N:Nat} {w w':World} {sl:SlV} {V:Nat→Jc} {cs:List LCall} (h:RdLC N w sl V cs) (hf:Fr N w w'):RdLC N w' sl V cs:=⟨h.1.fr hf,fun j hj=>(h.2 j hj).fr hf⟩
theorem getD_app_left {α:Type} {l m:List α} {d:α} {i:Nat} (h:i<l.length):(l++m).getD i d=l.getD i d:=by
 rw [List.getD_eq_getElem?_getD,List.getElem?_append_left h,←List.getD_eq_getElem?_getD]
def AnsOf (N:Nat) (w:World) (gs:Nat→LgL) (As:Nat→LAns) (k:Nat) (Vs:List Ja):Prop:=
 Vs.length=k+1∧Vs.getD 0 default=Ja.nil.beh (gs 0)∧∀j,j<k→∃U:Ja,Vs.getD (j+1) default=U.beh (gs (j+1))∧U.Rd N w (As j)
theorem AnsOf.fr {N:Nat} {w w':World} {gs:Nat→LgL} {As:Nat→LAns} {k:Nat} {Vs:List Ja} (h:AnsOf N w gs As k Vs) (hf:Fr N w w'):AnsOf N w' gs As k Vs:=
 ⟨h.1,h.2.1,fun j hj=>by obtain ⟨U,h1,h2⟩:=h.2.2 j hj;exact ⟨U,h1,h2.fr hf⟩⟩
theorem AnsOf.snoc {N:Nat} {w:World} {gs:Nat→LgL} {As:Nat→LAns} {k:Nat} {Vs:List Ja} {U:Ja} (h:AnsOf N w gs As k Vs) (hU:U.Rd N w (As k)):AnsOf N w gs As (k+1) (Vs++[U.beh (gs (k+1))]):=by
 obtain ⟨h1,h2,h3⟩:=h;refine ⟨by simp [h1],by rw [getD_app_left (by omega)];exact h2,fun j hj=>?_⟩;rcases Nat.lt_or_ge j k with hl|hl
 ·rw [getD_app_left (by omega)];exact h3 j hl
 ·obtain rfl:j=k:=by omega
  refine ⟨U,?_,hU⟩;rw [List.getD_eq_getElem?_getD,List.getElem?_append_right (by omega),h1];simp
theorem FU.fr {N:Nat} {w w':World} {b:Nat} (h:Upd (FU N w b) w w') (hm:Mutb N w b):Fr N w w':=h.fr fun k hk=>hk.elim (fun ⟨h1,T,h2,h3⟩=>⟨h1,.inr ⟨T,h2,logT_imm h3⟩⟩) (fun e=>e ▸hm)
theorem range_of {wr:World} {b o k sz:Nat} {cs:Array Value} (hs:cs.size=sz) (hc:∀i,i<sz→wr.cell? ⟨b,o+(k*sz+i),none⟩=some (cs.getD i undef)):wr.rangeAt b (o+k*sz) cs.toList:=by
 intro j u hj;have hl:j<sz:=by
  rcases Nat.lt_or_ge j sz with h|h
  ·exact h
  ·rw [List.getElem?_eq_none (by simp;omega)] at hj;cases hj
 rw [show o+k*sz+j=o+(k*sz+j) by omega,hc j hl];rw [List.getElem?_eq_getElem (by simp;omega)] at hj;rw [←hj];have h2:j<cs.size:=by omega
 simp [Array.getD,h2]
theorem Jc.one (v:Jc):v.cells.all (·.oneCell')=true:=by simp [Jc.cells,Value.oneCell']
theorem load_midA {P:Program} {ops:Array Oper} {rest:List Oper} {op:Oper} {a:Act} {w:World} {Q:Exit→Act→World→Prop} (hgd:op.guard=none) (ty:TypeId) (x:Operand) (ho:op.op=.load ty x)
  (b o:Nat) (hx:a.eval x=.pointer (some ⟨b,o,none⟩)) (cs:Array Value) (d:TypeDesc) (hc:w.rangeAt b o cs.toList)
  (hu:P.underlying ty=some d) (hd:d.isRow=true) (hi:(P.info? ty).map (·.size)=some cs.toList.length)
  (h:wpList P ops Q rest (a.put op.dst (.agg cs)) w):wpList P ops Q (op::rest) a w:=
 wpList_load_mid hgd ty x ho b o hx cs.toList d hc hu hd hi (by simpa using h)
def flatA (Vs:List Ja):List Value:=Vs.flatMap fun V=>V.cells.toList
theorem flatA_snoc (Vs:List Ja) (V:Ja):flatA (Vs++[V])=flatA Vs++V.cells.toList:=by simp [flatA]
theorem inf48':(Tryz.prog.info? 48).map (fun i=>(i.zero,i.size,i.bytes))=some (some (.agg Ja.nil.cells),21,264):=inf48z
def LogRel (N base rb tb ob:Nat) (gs:Nat→LgL) (As:Nat→LAns) (J0:LId) (n:Nat) (w:World) (i:Value) (wr:World):Prop:=
 ∃(k:Nat) (J:LId) (Vs:List Ja) (g cap:Nat),k≤n∧i=.int .i64 (k:Nat)∧J.as J0∧Jf N wr J (gs k)∧Blk wr rb 94 #[.pointer (some ⟨J0.I.ms,0,none⟩),.pointer (some ⟨J0.l,0,none⟩)]∧Blk wr tb 91 #[.pointer (some ⟨rb,0,none⟩)]∧
  Blk wr ob 52 #[.slice (some ⟨g,0,none⟩) (k+1:Nat) cap]∧wr.ownsRow base 48 21 (.slice (some ⟨g,0,none⟩) (k+1) cap) (k+1) (flatA Vs)∧AnsOf N wr gs As k Vs∧Upd (LU N w) w wr
section
variable {N:Nat} {w w' w'':World}
theorem logRun {bs cs:SlV} {VB:Nat→Jd} {VC:Nat→Jc} {bl:List SCall} {cl:List LCall} {size:Int} {s0:StL} {gs:Nat→LgL} {As:Nat→LAns} (hN:N≤w.heap.size)
  (hbs:RdSC N w bs VB bl) (hlen:bl.length≤1000) (hbok:∀j,j<bl.length→(bl.getD j default).Ok)
  (hrun:∀k s1,k<bl.length→SRun StL.zero (bl.take k)=some s1→s1.Ok∧∃x,SDo s1 (bl.getD k default)=some x) (hs0:SRun StL.zero bl=some s0) (hok0:s0.Ok) (hg0:gs 0=LgL.fresh s0 size)
  (hcs:RdLC N w cs VC cl) (hcl:cl.length≤1000)
  (hcall:∀k,k<cl.length→∀(W:World) (J:LId) (v:Jc) (r:Nat),Jf N W J (gs k)→Blk W r 94 #[.pointer (some ⟨J.I.ms,0,none⟩),.pointer (some ⟨J.l,0,none⟩)]→v.Rd N W (cl.getD k default)→
   Calls Tryz.prog 43 #[.pointer (some ⟨r,0,none⟩),.agg v.cells] W fun e w'=>∃V:Ja,e=.returned (.agg V.cells)∧V.Rd N w' (As k)∧LgR N W J (gs (k+1)) w'):
  Calls Tryz.prog 11 #[.slice bs.A bs.n bs.c,.int .u64 size,.slice cs.A cs.n cs.c] w fun e w'=>∃(g cap:Nat) (Vs:List Ja),e=.returned (.slice (some ⟨g,0,none⟩) (cl.length+1:Nat) cap)∧
   w'.ownsRow w.heap.size 48 21 (.slice (some ⟨g,0,none⟩) (cl.length+1) cap) (cl.length+1) (flatA Vs)∧AnsOf N w' gs As cl.length Vs∧Upd (LU N w) w w':=by
 have hmf:∀(fn:Fn) (first cap:Array Value) (w:World),(Instr.makeFunc fn first cap).run Tryz.prog w=.ok (.func fn first cap) w:=fun _ _ _ _=>rfl;have HNS:=qq (fun (o:Obj)=>newStore (N:=N) (w:=w.alloc o) (by simp;omega));have HST:=qq (fun (W:World) (I:SId) (h:Je N W I StL.zero) (hu:Upd No w W)=>storedW h (hbs.fr hu.fr0) hlen hbok hrun);have HCS:=qq hcs;have HL:=qq hcs.1.len;have HCALL:=qq hcall;have HS0:=qq hs0;have HOK0:=qq hok0;have HG0:=qq hg0;have hsn:cs.n≤1000:=by have:=hcs.1.len;omega
 clear hbs hlen hbok hrun hcs hcall hs0 hok0 hg0;go_enter Tryz.func11,Tryz.ntmps11;go_wp2_with fail
 refine (HNS.out _).mono ?_;rintro r w1 ⟨I,rfl,R1,U1,hI⟩;have HU1:=qq (show Upd No w w1 from ((Upd.refl No w).alloc _).trans U1 fun _ h=>h.elim);have HB1:=qq ((Blk.new w 23 #[.int .u64 size]).upd U1 (fun h=>h));have HR1:=qq R1;clear R1 U1;go_wp2_with fail
 refine (HST.out _ _ HR1.out HU1.out).mono ?_;rintro r w2 ⟨t,rfl,⟨I2,s2,e2,hs2,R2⟩,U2⟩;obtain rfl:s2=s0:=by have:=HS0.out;rw [hs2] at this;injection this
 have HU2:=qq (show Upd (LU N w) w w2 from HU1.out.ofNo.trans U2 fun j ⟨h1,T,h2,h3⟩=>by
  rcases Nat.lt_or_ge j w.heap.size with hl|hl
  ·obtain ⟨cs,fz,h2⟩:=h2;exact .inl ⟨h1,T,⟨cs,fz,(HU1.out.keep j hl (fun h=>h)).symm.trans h2⟩,h3⟩
  ·exact .inr hl)
 have HB2:=qq (LU.blk U2 HB1.out rfl);have HR2:=qq R2;have HI2:=qq e2;have hw2:=Nat.le_trans hN HU2.out.size;have hI1:w.heap.size≤I2.ms:=by rw [e2];simp at hI;omega
 clear R2 U2 hs2 e2 hI;go_wp2_with fail
 obtain ⟨w3,hw3⟩:∃W,W=((w2.alloc (Obj.cells #[Value.slice none 0 0] 52)).alloc (Obj.cells #[pp I.ms,.pointer none] 94)).alloc (Obj.cells #[pp (w2.heap.size+1)] 91):=⟨_,rfl⟩;have HSZ3:=qq (show w3.heap.size=w2.heap.size+1+1+1 by rw [hw3];simp);have HU3:=qq (show Upd No w2 w3 by rw [hw3];exact (((Upd.refl No w2).alloc _).alloc _).alloc _);have BO:=qq (show Blk w3 w2.heap.size 52 #[.slice none 0 0] by rw [hw3];exact ((Blk.new_ rfl).alloc _).alloc _);have BR:=qq (show Blk w3 (w2.heap.size+1) 94 #[pp I2.ms,.pointer none] by rw [hw3,HI2.out];exact (Blk.new_ (by simp)).alloc _);have BT:=qq (show Blk w3 (w2.heap.size+1+1) 91 #[pp (w2.heap.size+1)] by rw [hw3];exact Blk.new_ (by simp));rw [←hw3];clear hw3;have hims:I2.ms<w2.heap.size:=HR2.out.mst.lt;have hwz:=HU2.out.size;have hz3:=HSZ3.out;have hU3a:=qq (HU3.out.alloc (.cells #[.bool false] 4));have HCL:=qq (clo39 (base:=w.heap.size) (HR2.out.no hU3a.out) HOK0.out (BR.out.alloc _) (by omega) (BO.out.alloc _) (BT.out.alloc _) ((HB2.out.upd HU3.out (fun h=>h)).alloc _) (Nat.le_trans hwz hU3a.out.size) hw2)
 have HG:=qq (guard39 (w:=w3) HCL.out (by
  rintro w' ⟨J,g,cap,h1,h2,h3,h4,h5,h6⟩
  exact (Blk.new w3 4 _).upd h6 (by omega)))
 clear HCL;refine HG.out.mono ?_;rintro r w5 ⟨rfl,w4,⟨J0,g0,cap0,eJ,R4,B4,O4,W4,U4⟩,U5⟩;have HU5:=qq (show Upd (LU N w) w w5 from ((HU2.out.no hU3a.out).trans U4 (by rintro k (rfl|rfl|rfl)<;>exact .inr (by omega))).no U5);have R5:=qq (R4.no U5);have B5:=qq (show Blk w5 (w2.heap.size+1) 94 #[pp J0.I.ms,pp J0.l] by rw [eJ];exact B4.upd U5 (fun h=>h));have O5:=qq (O4.upd U5 (fun h=>h));have W5:=qq (show w5.ownsRow w.heap.size 48 21 (.slice (some ⟨g0,0,none⟩) 1 cap0) 1 (Ja.nil.beh (LgL.fresh s2 size)).cells.toList from own_upd W4 U5 (fun _ h=>h.elim));have T5:=qq (show Blk w5 (w2.heap.size+1+1) 91 #[pp (w2.heap.size+1)] from ((BT.out.alloc _).upd U4 (by rintro (h|h|h)<;>omega)).upd U5 (fun h=>h));clear eJ R4 B4 O4 W4 U4 U5 HG BO BR BT HB2 HB1 HR1 HR2 hU3a HU3 HNS HST;have hrbz:w.heap.size≤w2.heap.size:=hwz;generalize hob:w2.heap.size=ob at*;clear HSZ3 hz3;go_wp2;go_loopw [33] (LogRel N w.heap.size (ob+1) (ob+1+1) ob gs As J0 cl.length w) (fun i _=>cs.n - (intOf i).toNat)
 case atStart=>
  rw [←HG0.out] at R5 W5;exact ⟨0,J0,[Ja.nil.beh (gs 0)],g0,cap0,Nat.zero_le _,rfl,rfl,R5.out,B5.out,T5.out,O5.out,by have:=W5.out;simpa [flatA] using this,⟨rfl,rfl,fun j hj=>absurd hj (by omega)⟩,HU5.out⟩
 case round=>
  obtain ⟨k,J,Vs,g,cap,hk,rfl,hJ,hR,hrb,htb,hoo,hown,hans,hu⟩:=hrel;by_cases hlt:k<cs.n
  ·obtain ⟨b,o,hA,hi,hc⟩:=(HCS.out.fr (LU.fr hu)).1.at_ (by omega);have hkc:k<cl.length:=by have:=HL.out;omega
   have hvk:=(HCS.out.fr (LU.fr hu)).2 k hkc;have hcell:=fun i hi=>hc k i hlt hi;generalize VC k=v at*;have HR0:=qq (show wr.rangeAt b (o+k*34) v.cells.toList from range_of (cs:=v.cells) rfl hcell);have HI:=qq (show (Tryz.prog.info? 45).map (·.size)=some v.cells.toList.length from inf45);have HIs:=qq (show (Tryz.prog.info? 45).map (·.size)=some v.cells.size from inf45);have HO:=qq (Jc.one v);have HZ:=qq (show Blk (wr.alloc (Obj.cells Z45 45)) wr.heap.size 45 Z45 from Blk.new_ rfl);obtain ⟨w9,hw9⟩:∃W,W=wr.alloc (Obj.cells Z45 45):=⟨_,rfl⟩;have U9:=qq (show Upd No wr w9 by rw [hw9];exact (Upd.refl No wr).alloc _);have S9:=qq (show w9.heap.size=wr.heap.size+1 by rw [hw9];simp);have E9:=qq hw9;clear hw9;have HHR:=qq hR;have HHU:=qq hu;have HHRB:=qq hrb;have HHTB:=qq htb;have HHOO:=qq hoo;have HHOWN:=qq hown;have HHANS:=qq hans;have HHJ:=qq hJ;have HHV:=qq hvk;clear hR hown hu hrb htb hoo hans hcell hvk hi hc hJ;rw [hA]
   go_wp2_with (first
    |(with_reducible refine load_midA rfl 45 (.tmp 35) rfl b (o+k*34) rfl v.cells _ HR0.out Tryz.underlying45 rfl HI.out ?_)
    |(with_reducible refine Jk rfl 45 (.tmp 13) (.tmp 36) rfl wr.heap.size v.cells rfl rfl 45 Z45 HZ.out HIs.out rfl HO.out ?_
      rw [←E9.out];intro w10 hb10 hu10
      have HB10:=qq hb10;have HU10:=qq hu10;clear hb10 hu10)
    |fail)
   have hR:=HHR.out;have hu:=HHU.out;have hrb:=HHRB.out;have htb:=HHTB.out;have hoo:=HHOO.out;have hown:=HHOWN.out;have hans:=HHANS.out;have hJ:=HHJ.out;have hvk:=HHV.out;clear HHR HHU HHRB HHTB HHOO HHOWN HHANS HHJ HHV;obtain ⟨W,hW⟩:∃W,W=(w10.alloc (Obj.cells Z48 48)):=⟨_,rfl⟩;have hU10:Upd No wr w10:=U9.out.trans HU10.out (by rintro j rfl;exact .inr (Nat.le_refl _));have hs10:wr.heap.size+1≤w10.heap.size:=by have h1:=HU10.out.size;have h2:=S9.out;omega
   rw [←hW];have hsz:W.heap.size=w10.heap.size+1:=by rw [hW];simp
   have U3:=qq (show Upd No wr W by rw [hW];exact hU10.alloc _);have B0:=qq (show Blk W wr.heap.size 45 v.cells by rw [hW];exact HB10.out.alloc _);have B1:=qq (show Blk W w10.heap.size 48 Ja.nil.cells by rw [hW];exact Blk.new_ rfl);clear hW;have UF:=qq (show Upd No wr (W.alloc (.cells #[.bool false] 4)) from U3.out.alloc _);have hu2:=hu.size;have hglt:g<wr.heap.size:=(hown.lt g rfl).2;have htg:Ty wr g 48:=by
    obtain ⟨h0,⟨h1,_⟩|⟨g',cap',cur,h1,_,hg,_⟩⟩:=hown
    ·cases h1
    ·cases h1;exact ⟨_,_,hg⟩
   have hng:ob≠g∧ob+1≠g∧ob+1+1≠g:=⟨hoo.ty.ne_ htg (by decide),hrb.ty.ne_ htg (by decide),htb.ty.ne_ htg (by decide)⟩;have hobl:=hoo.lt;have hrbl:=hrb.lt;have htbl:=htb.lt;have hNw:N≤wr.heap.size:=Nat.le_trans hN hu2
   have hHC:=qq (clo41 (w:=W.alloc (.cells #[.bool false] 4)) (g':=gs (k+1)) (A:=As k) (hR.no UF.out) (htb.upd UF.out (fun h=>h)) (by rw [hJ.ms,hJ.l];exact hrb.upd UF.out (fun h=>h)) (B0.out.alloc _) (B1.out.alloc _) (by omega)
    (fun W' hu'=>HCALL.out k hkc W' J v (ob+1) ((hR.no UF.out).no hu') (by rw [hJ.ms,hJ.l];exact (hrb.upd UF.out (fun h=>h)).upd hu' (fun h=>h)) ((hvk.fr UF.out.fr0).fr hu'.fr0)))
   have HG:=qq (guard41 (w:=W) hHC.out (by
    rintro w' ⟨V,h1,h2,h3,h4⟩
    exact FU.blk h4 (Blk.new W 4 _) rfl (by omega)))
   have HOWN:=qq (own_upd hown UF.out (fun _ h=>h.elim));have HUW:=qq (hu.no UF.out);have HSZ:=qq hsz;have HJ:=qq hJ;have HTB:=qq (htb.upd UF.out (fun h=>h));have HRB2:=qq (hrb.upd UF.out (fun h=>h));have HOO:=qq (hoo.upd UF.out (fun h=>h));have HANS:=qq (hans.fr UF.out.fr0);have HTG:=qq (htg.upd UF.out (fun h=>h));clear hR hown hu hrb htb hoo hans hvk hHC hsz hJ htg;refine HG.out.mono ?_;rintro r w7 ⟨rfl,w6,⟨V,⟨J2,e2,R2⟩,hb2,hV,U4⟩,U5⟩;have HANS2:=qq (show AnsOf N w7 gs As (k+1) (Vs++[V.beh (gs (k+1))]) from (HANS.out.fr ((FU.fr U4 ((B1.out.alloc _).mutb (by omega) rfl)).trans U5.fr0)).snoc (hV.fr U5.fr0));obtain ⟨V2,hV2⟩:∃X,X=V.beh (gs (k+1)):=⟨_,rfl⟩;rw [←hV2] at hb2 HANS2;have HB5:=qq (show Blk w7 w10.heap.size 48 #[.int .i64 V2.err,.int .u64 V2.n,.int .u64 V2.m,.bool V2.flag,.int .u64 V2.atT,.int .u64 V2.atI,V2.es.v,.slice none 0 0,.string V2.sn.data,.int .u64 V2.sn.index,.int .u64 V2.sn.term,V2.sn.cf.vo.v,V2.sn.cf.le.v,V2.sn.cf.ou.v,V2.sn.cf.ne.v,.bool V2.sn.cf.auto,.int .u64 V2.com,.int .u64 V2.apg,.int .u64 V2.apd,.bool V2.paused,.bool false] from hb2.upd U5 (fun h=>h));have HR5:=qq (R2.no U5);have HU7:=qq ((FU.fold HUW.out U4 (by omega)).no U5)
   have HOW5:=qq (show w7.ownsRow w.heap.size 48 21 (.slice (some ⟨g,0,none⟩) (k+1) cap) (k+1) (flatA Vs) from own_upd (own_upd HOWN.out U4 (by
    rintro j (⟨_,T,h2,h3⟩|hj) ho
    ·cases ho;by_cases e:(48:TypeId)=T
     ·subst e;cases h3
     ·exact HTG.out.ne_ h2 e rfl
    ·have hj2:g=j:=by injection ho
     omega)) U5 (fun _ h=>h.elim))
   have HO5:=qq ((FU.blk U4 HOO.out rfl (by omega)).upd U5 (fun h=>h));have HRB5:=qq ((FU.blk U4 HRB2.out rfl (by omega)).upd U5 (fun h=>h));have HTB5:=qq ((FU.blk U4 HTB.out rfl (by omega)).upd U5 (fun h=>h));have HI5:=qq (show (Tryz.prog.info? 48).map (·.size)=some (#[.int .i64 V2.err,.int .u64 V2.n,.int .u64 V2.m,.bool V2.flag,.int .u64 V2.atT,.int .u64 V2.atI,V2.es.v,.slice none 0 0,.string V2.sn.data,.int .u64 V2.sn.index,.int .u64 V2.sn.term,V2.sn.cf.vo.v,V2.sn.cf.le.v,V2.sn.cf.ou.v,V2.sn.cf.ne.v,.bool V2.sn.cf.auto,.int .u64 V2.com,.int .u64 V2.apg,.int .u64 V2.apd,.bool V2.paused,.bool false]:Array Value).size from inf48);have hz5:=qq (show w.heap.size≤w7.heap.size from HU7.out.size);have z5:w7.cell? ⟨ob,0,none⟩=some (.slice (some ⟨g,0,none⟩) (k+1) cap):=HO5.out.cell 0;have HE2:=qq (show J2.as J0 from e2.trans HJ.out)
   have HTG5:=qq (show Ty w7 g 48 from by
    obtain ⟨h0,⟨h1,_⟩|⟨g',cap',cur,h1,_,hg,_⟩⟩:=HOW5.out
    ·cases h1
    ·cases h1
     exact ⟨_,_,hg⟩)
   clear R2 hb2 U4 U5 hV e2 hV2
   go_wp2_with (first
    |(with_reducible refine Jm rfl 48 (.tmp 14) rfl w10.heap.size #[.int .i64 V2.err,.int .u64 V2.n,.int .u64 V2.m,.bool V2.flag,.int .u64 V2.atT,.int .u64 V2.atI,V2.es.v,.slice none 0 0,.string V2.sn.data,.int .u64 V2.sn.index,.int .u64 V2.sn.term,V2.sn.cf.vo.v,V2.sn.cf.le.v,V2.sn.cf.ou.v,V2.sn.cf.ne.v,.bool V2.sn.cf.auto,.int .u64 V2.com,.int .u64 V2.apg,.int .u64 V2.apd,.bool V2.paused,.bool false] rfl 48 _ HB5.out Tryz.underlying48 rfl HI5.out ?_)
    |(at_builtin;refine app_one rfl (.tmp 43) (.tmp 45) 52 rfl w.heap.size 48 (.agg Ja.nil.cells) 21 264 Tryz.underlying52 inf48z rfl (by omega) (.slice (some ⟨g,0,none⟩) (k+1) cap) (k+1) (flatA Vs) rfl HOW5.out #[.int .i64 V2.err,.int .u64 V2.n,.int .u64 V2.m,.bool V2.flag,.int .u64 V2.atT,.int .u64 V2.atI,V2.es.v,.slice none 0 0,.string V2.sn.data,.int .u64 V2.sn.index,.int .u64 V2.sn.term,V2.sn.cf.vo.v,V2.sn.cf.le.v,V2.sn.cf.ou.v,V2.sn.cf.ne.v,.bool V2.sn.cf.auto,.int .u64 V2.com,.int .u64 V2.apg,.int .u64 V2.apd,.bool V2.paused,.bool false] rfl rfl (Ja.oneL V2) (by simp only [maxLen];omega) (by omega) hz5.out ?_
      intro v8 w8 ho8 hu8 hb8;obtain ⟨g8,cap8,rfl,hg8,hg8l⟩:=ho8.form (by omega);have hO8:=HO5.out.upd hu8 (fun h=>hng.1 (by injection h with h;exact h.symm));have z8:w8.cell? ⟨ob,0,none⟩=some (.slice (some ⟨g,0,none⟩) (k+1) cap):=hO8.cell 0;have y8:w8.frozen? ⟨ob,0,none⟩=false:=hO8.frozen 0
      have HO8:=qq hO8;have HU8:=qq hu8;have HW8:=qq ho8;have HV8:=qq hb8;clear hO8 hu8 ho8 hb8))
   have hu9:Upd (fun k=>k=ob) w8 (w8.setCell ⟨ob,0,none⟩ (.slice (some ⟨g8,0,none⟩) (k+1+1) cap8)):=(Upd.refl (fun k=>k=ob) w8).setIn rfl 0 _;have hm8:=own_mutb HOW5.out rfl hN;have hf8:Fr N w7 w8:=HU8.out.fr hm8;have hf9:=hu9.fr (N:=N) (by rintro k rfl;exact HO8.out.mutb (by omega) rfl);have hg8o:g8≠ob:=by
    rcases HV8.out with h|⟨j,h1,h2⟩
    ·injection h with h;have:g8=g:=h;omega
    ·injection h1 with h1;have:g8=j:=h1;have:=HO5.out.lt;omega
   have hnl:∀(W:World) (b:Nat) (T T':TypeId),Ty W b T→logT T=false→T'=T'→logT T'=true→¬Ty W b T':=by
    intro W b T T' h1 h2 _ h3 h4;by_cases e:T=T'
    ·subst e;rw [h2] at h3;cases h3
    ·exact h1.ne_ h4 e rfl
   refine ⟨⟨k+1,J2,Vs++[V2],g8,cap8,by omega,by simp,HE2.out,?_,?_,?_,HO8.out.set_ 0 _,?_,(HANS2.out.fr hf8).fr hf9,?_⟩,by simp [intOf];omega⟩
   ·exact (HR5.out.upd HU8.out hf8 (by
     intro j T hj ht hl;obtain rfl:g=j:=by injection hj
     exact hnl _ _ _ _ HTG5.out rfl rfl hl ht)).upd hu9 hf9 (by
     rintro j T rfl ht hl
     exact hnl _ _ _ _ HO8.out.ty rfl rfl hl ht)
   ·exact (HRB5.out.upd HU8.out (fun h=>hng.2.1 (by injection h with h;exact h.symm))).upd hu9 (by omega)
   ·exact (HTB5.out.upd HU8.out (fun h=>hng.2.2 (by injection h with h;exact h.symm))).upd hu9 (by omega)
   ·rw [flatA_snoc];exact own_upd HW8.out hu9 (by rintro j rfl h;injection h with h;exact hg8o h)
   ·refine (HU7.out.trans HU8.out (fun j hj=>?_)).trans hu9 (by rintro j rfl;exact .inr (by omega));obtain rfl:g=j:=by injection hj
    exact .inr (HOW5.out.lt g rfl).1
  ·have hkn:k=cl.length:=by have:=HL.out;omega
   subst hkn;have HFIN:=qq (And.intro hown (And.intro hans hu));have z5:wr.cell? ⟨ob,0,none⟩=some (.slice (some ⟨g,0,none⟩) (cl.length+1) cap):=hoo.cell 0;clear hown hans hu hR hJ hrb htb hoo;go_wp2;go_ret;exact ⟨g,cap,Vs,rfl,HFIN.out.1,HFIN.out.2.1,HFIN.out.2.2⟩
end
structure StK where
 b:Nat
 v:SnV
 L:SlV
 x:Int
 y:Int
 z:Int
 f:Bool
structure TlK where
 b:Nat
 v:SnV
 E:SlV
def stoCells (I:StK) (s:StL):Array Value:=
 #[.string I.v.data,.int .u64 I.v.index,.int .u64 I.v.term,.slice I.v.cf.vo.A I.v.cf.vo.n I.v.cf.vo.c,.slice I.v.cf.le.A I.v.cf.le.n I.v.cf.le.c,.slice I.v.cf.ou.A I.v.cf.ou.n I.v.cf.ou.c,.slice I.v.cf.ne.A I.v.cf.ne.n I.v.cf.ne.c,.bool I.v.cf.auto,
  .int .u64 I.x,.int .u64 I.y,.int .u64 I.z,.bool I.f,.int .u64 s.atT,.int .u64 s.atI,.slice I.L.A I.L.n I.L.c]
def tlCells (I:TlK) (u:TlL):Array Value:=
 #[.string I.v.data,.int .u64 I.v.index,.int .u64 I.v.term,.slice I.v.cf.vo.A I.v.cf.vo.n I.v.cf.vo.c,.slice I.v.cf.le.A I.v.cf.le.n I.v.cf.le.c,.slice I.v.cf.ou.A I.v.cf.ou.n I.v.cf.ou.c,.slice I.v.cf.ne.A I.v.cf.ne.n I.v.cf.ne.c,.bool I.v.cf.auto,
  .bool u.has,.slice I.E.A I.E.n I.E.c,.int .u64 u.off,.bool u.going,.int .u64 u.till]
def lgCells (A:StK) (B:TlK) (g:LgL):Array Value:=
 #[.pointer (some ⟨A.b,0,none⟩),.pointer (some ⟨B.b,0,none⟩),.int .u64 g.com,.int .u64 g.apg,.int .u64 g.apd,.int .u64 g.size,.int .u64 g.usg,.bool g.paused]
structure Kb (N:Nat) (w:World) (I:StK) (s:StL):Prop where
 blk:Blk w I.b 67 (stoCells I s)
 cf:I.v.Rd N w s.snap
 L:Jh N w I.L s.L
 N:N≤I.b
structure SpTl (N:Nat) (w:World) (I:TlK) (u:TlL):Prop where
 blk:Blk w I.b 85 (tlCells I u)
 cf:I.v.Rd N w u.snap
 E:Jh N w I.E u.es
 N:N≤I.b
structure Ka (N:Nat) (w:World) (l:Nat) (A:StK) (B:TlK) (g:LgL):Prop where
 blk:Blk w l 57 (lgCells A B g)
 st:Kb N w A g.s
 tl:SpTl N w B g.u
 N:N≤l
def spS (l:Nat) (A:StK) (B:TlK) (k:Nat):Prop:=k=l∨k=A.b∨k=B.b
section
variable {N:Nat} {w w':World} {S:Nat→Prop} {I:StK} {s:StL} {B:TlK} {u:TlL} {l:Nat} {g:LgL}
theorem Kb.upd (h:Kb N w I s) (hu:Upd S w w') (hf:Fr N w w') (hS:¬S I.b):Kb N w' I s:=⟨h.blk.upd hu hS,h.cf.fr hf,h.L.fr hf,h.N⟩
theorem SpTl.upd (h:SpTl N w B u) (hu:Upd S w w') (hf:Fr N w w') (hS:¬S B.b):SpTl N w' B u:=⟨h.blk.upd hu hS,h.cf.fr hf,h.E.fr hf,h.N⟩
theorem Ka.upd (h:Ka N w l I B g) (hu:Upd S w w') (hf:Fr N w w') (hS:∀k,spS l I B k→¬S k):Ka N w' l I B g:=
 ⟨h.blk.upd hu (hS _ (.inl rfl)),h.st.upd hu hf (hS _ (.inr (.inl rfl))),h.tl.upd hu hf (hS _ (.inr (.inr rfl))),h.N⟩
theorem Kb.no (h:Kb N w I s) (hu:Upd No w w'):Kb N w' I s:=h.upd hu hu.fr0 fun h=>h
theorem SpTl.no (h:SpTl N w B u) (hu:Upd No w w'):SpTl N w' B u:=h.upd hu hu.fr0 fun h=>h
theorem Ka.no (h:Ka N w l I B g) (hu:Upd No w w'):Ka N w' l I B g:=h.upd hu hu.fr0 fun _ _ h=>h
theorem Kb.drewN (h:Kb N w I s) (n:Nat):Kb N (w.drewN n) I s:=h.no ((Upd.refl No w).drewN n)
theorem SpTl.drewN (h:SpTl N w B u) (n:Nat):SpTl N (w.drewN n) B u:=h.no ((Upd.refl No w).drewN n)
theorem Ka.drewN (h:Ka N w l I B g) (n:Nat):Ka N (w.drewN n) l I B g:=h.no ((Upd.refl No w).drewN n)
theorem Kb.c (h:Kb N w I s) (i:Nat):w.cell? ⟨I.b,i,none⟩=(stoCells I s)[i]?:=h.blk.cell i
theorem SpTl.c (h:SpTl N w B u) (i:Nat):w.cell? ⟨B.b,i,none⟩=(tlCells B u)[i]?:=h.blk.cell i
theorem Ka.c (h:Ka N w l I B g) (i:Nat):w.cell? ⟨l,i,none⟩=(lgCells I B g)[i]?:=h.blk.cell i
theorem Ka.ne_s (h:Ka N w l I B g):l≠I.b:=h.blk.ne_ h.st.blk (by decide)
theorem Ka.ne_t (h:Ka N w l I B g):l≠B.b:=h.blk.ne_ h.tl.blk (by decide)
theorem Ka.ne_st (h:Ka N w l I B g):I.b≠B.b:=h.st.blk.ne_ h.tl.blk (by decide)
structure StL.Sm (s:StL):Prop where
 i0:0≤s.atI
 i1:s.atI<4611686018427387904
 len:s.L.length≤100000
structure TlL.Sm (u:TlL):Prop where
 o0:0≤u.off
 o1:u.off<4611686018427487904
 len:u.es.length≤100000
 i0:0≤u.snap.index
 i1:u.snap.index<4611686018427387904
 t0:0≤u.till
 t1:u.till<4611686018427587904
theorem spStFirst (h:Kb N w I s) (hs:s.Sm):
  Calls Tryz.prog 34 #[.pointer (some ⟨I.b,0,none⟩)] w fun e w'=>e=.returned (.int .u64 s.first)∧w=w':=by
 have c13:w.cell? ⟨I.b,13,none⟩=some (.int .u64 s.atI):=h.c 13;have i0:=hs.i0;have i1:=hs.i1;have hF:s.first=s.atI+1:=rfl;rw [hF];clear h hs hF;go_enter Tryz.func34,Tryz.ntmps34;go_wp2;go_ret;exact ⟨rfl,rfl⟩
theorem spStLast (h:Kb N w I s) (hs:s.Sm):
  Calls Tryz.prog 32 #[.pointer (some ⟨I.b,0,none⟩)] w fun e w'=>e=.returned (.int .u64 s.last)∧∃n,w.drewN n=w':=by
 have c13:w.cell? ⟨I.b,13,none⟩=some (.int .u64 s.atI):=h.c 13;have c14:w.cell? ⟨I.b,14,none⟩=some I.L.v:=h.c 14;have i0:=hs.i0;have i1:=hs.i1;have hl:=h.L.len;have hn:I.L.n≤100000:=by have:=hs.len;omega
 have hF:s.last=s.atI+(I.L.n:Int):=by unfold StL.last;omega
 rw [hF];clear h hs hF hl;go_enter Tryz.func32,Tryz.ntmps32;go_wp2_with fail
 go_quiet (fail)
 go_wp2;go_ret;exact ⟨rfl,_,rfl⟩
theorem spTlFirst (h:SpTl N w B u) (hs:u.Sm):
  Calls Tryz.prog 68 #[.pointer (some ⟨B.b,0,none⟩)] w fun e w'=>e=.returned (.tuple #[.int .u64 (if u.has=true then u.snap.index+1 else 0),.bool u.has])∧w=w':=by
 have c1:w.cell? ⟨B.b,1,none⟩=some (.int .u64 u.snap.index):=by rw [←h.cf.index];exact h.c 1
 have c8:w.cell? ⟨B.b,8,none⟩=some (.bool u.has):=h.c 8;have i0:=hs.i0;have i1:=hs.i1;clear h hs;generalize u.has=hb at*;rcases hb with _|_
 ·go_enter Tryz.func68,Tryz.ntmps68;go_wp2;go_ret2;exact ⟨rfl,rfl⟩
 ·go_enter Tryz.func68,Tryz.ntmps68;go_wp2;go_ret2;exact ⟨rfl,rfl⟩
theorem spTlLast (h:SpTl N w B u) (hs:u.Sm):
  Calls Tryz.prog 56 #[.pointer (some ⟨B.b,0,none⟩)] w fun e w'=>e=.returned (.tuple #[.int .u64 (if u.es.length≠0 then u.end_ - 1 else u.snap.index),.bool (if u.es.length≠0 then true else u.has)])∧∃n,w.drewN n=w':=by
 have c1:w.cell? ⟨B.b,1,none⟩=some (.int .u64 u.snap.index):=by rw [←h.cf.index];exact h.c 1
 have c8:w.cell? ⟨B.b,8,none⟩=some (.bool u.has):=h.c 8;have c9:w.cell? ⟨B.b,9,none⟩=some (.slice B.E.A B.E.n B.E.c):=h.c 9;have c10:w.cell? ⟨B.b,10,none⟩=some (.int .u64 u.off):=h.c 10;have i0:=hs.i0;have i1:=hs.i1;have o0:=hs.o0;have o1:=hs.o1;have hl:=h.E.len;have hlen:=hs.len;by_cases hn:u.es.length=0
 ·rw [if_neg (by omega),if_neg (by omega)];have hn':B.E.n=0:=by omega
  rw [hn'] at c9;clear h hs hl hn hlen hn';go_enter Tryz.func56,Tryz.ntmps56;go_wp2_with fail
  go_quiet (fail)
  go_wp2;go_ret2;exact ⟨rfl,_,rfl⟩
 ·rw [if_pos hn,if_pos hn];have hE:u.end_=u.off+(B.E.n:Int):=by unfold TlL.end_;omega
  rw [hE];have hp:(0:Int)<(B.E.n:Int):=by omega
  have hn2:B.E.n≤100000:=by omega
  clear h hs hl hn hlen hE;go_enter Tryz.func56,Tryz.ntmps56;go_wp2_with fail
  go_quiet (fail)
  go_wp2;go_ret2;exact ⟨rfl,_,rfl⟩
theorem spFirst (h:Ka N w l I B g) (hs:g.s.Sm) (hu:g.u.Sm):
  Calls Tryz.prog 35 #[.pointer (some ⟨l,0,none⟩)] w fun e w'=>e=.returned (.int .u64 g.first)∧w=w':=by
 have c0:w.cell? ⟨l,0,none⟩=some (pp I.b):=h.c 0;have c1:w.cell? ⟨l,1,none⟩=some (pp B.b):=h.c 1;have H1:=qq (spTlFirst h.tl hu);have H2:=qq (spStFirst h.st hs);unfold LgL.first;clear h hs hu;rcases hh:g.u.has with _|_
 ·rw [hh] at H1;simp only [Bool.false_eq_true,if_false] at H1 ⊢;clear hh;go_enter Tryz.func35,Tryz.ntmps35;go_wp2_with fail
  refine H1.out.mono ?_;rintro r w' ⟨rfl,rfl⟩;go_wp2_with fail
  refine H2.out.mono ?_;rintro r w' ⟨rfl,rfl⟩;go_wp2;go_ret;exact ⟨rfl,rfl⟩
 ·rw [hh] at H1;simp only [if_true] at H1 ⊢;clear hh;go_enter Tryz.func35,Tryz.ntmps35;go_wp2_with fail
  refine H1.out.mono ?_;rintro r w' ⟨rfl,rfl⟩;go_wp2;go_ret;exact ⟨rfl,rfl⟩
theorem spLast (h:Ka N w l I B g) (hs:g.s.Sm) (hu:g.u.Sm):
  Calls Tryz.prog 22 #[.pointer (some ⟨l,0,none⟩)] w fun e w'=>e=.returned (.int .u64 g.last)∧∃n,w.drewN n=w':=by
 have c0:w.cell? ⟨l,0,none⟩=some (pp I.b):=h.c 0;have c1:w.cell? ⟨l,1,none⟩=some (pp B.b):=h.c 1;have H1:=qq (spTlLast h.tl hu);have H2:=qq fun n=>spStLast (h.st.drewN n) hs;unfold LgL.last;clear h hs hu;by_cases hn:g.u.es.length=0
 ·rw [if_neg (by omega),if_neg (by omega)] at H1;rw [if_neg (by omega)];clear hn;rcases hh:g.u.has with _|_
  ·rw [hh] at H1;simp only [Bool.false_eq_true,if_false];clear hh;go_enter Tryz.func22,Tryz.ntmps22;go_wp2_with fail
   refine H1.out.mono ?_;rintro r w' ⟨rfl,n,rfl⟩;go_wp2_with fail
   refine (H2.out _).mono ?_;rintro r w' ⟨rfl,m,rfl⟩;go_wp2;go_ret;exact ⟨rfl,_,rfl⟩
  ·rw [hh] at H1;simp only [if_true];clear hh;go_enter Tryz.func22,Tryz.ntmps22;go_wp2_with fail
   refine H1.out.mono ?_;rintro r w' ⟨rfl,n,rfl⟩;go_wp2;go_ret;exact ⟨rfl,_,rfl⟩
 ·rw [if_pos hn,if_pos hn] at H1;rw [if_pos hn];clear hn;go_enter Tryz.func22,Tryz.ntmps22;go_wp2_with fail
  refine H1.out.mono ?_;rintro r w' ⟨rfl,n,rfl⟩;go_wp2;go_ret;exact ⟨rfl,_,rfl⟩
end
section
variable {N:Nat} {w w':World} {S:Nat→Prop} {I:StK} {s:StL} {B:TlK} {u:TlL} {l:Nat} {g:LgL}
theorem TlL.term_none {u:TlL} {i:Int} (h1:¬(u.off≤i∧i<u.end_)) (h2:¬(u.has=true∧u.snap.index=i∧i<u.off)):u.term i=none:=by unfold TlL.term;rw [if_neg h1,if_neg h2]
theorem spTlTerm (h:SpTl N w B u) (hs:u.Sm) {i:Int} (hi0:0≤i) (hi:i<18446744073709551616):
  Calls Tryz.prog 61 #[.pointer (some ⟨B.b,0,none⟩),.int .u64 i] w fun e w'=>e=.returned (.tuple #[.int .u64 ((u.term i).getD 0),.bool (u.term i).isSome])∧∃n,w.drewN n=w':=by
 have c1:w.cell? ⟨B.b,1,none⟩=some (.int .u64 u.snap.index):=by rw [←h.cf.index];exact h.c 1
 have c2:w.cell? ⟨B.b,2,none⟩=some (.int .u64 u.snap.term):=by rw [←h.cf.term];exact h.c 2
 have c8:w.cell? ⟨B.b,8,none⟩=some (.bool u.has):=h.c 8;have c9:w.cell? ⟨B.b,9,none⟩=some (.slice B.E.A B.E.n B.E.c):=h.c 9;have c10:w.cell? ⟨B.b,10,none⟩=some (.int .u64 u.off):=h.c 10;have o0:=hs.o0;have o1:=hs.o1;have hl:=h.E.len;have hlen:=hs.len;have hE:u.end_=u.off+(B.E.n:Int):=by unfold TlL.end_;omega
 have hn2:B.E.n≤100000:=by omega
 by_cases h1:u.off≤i
 ·obtain ⟨j,hj⟩:=Int.eq_ofNat_of_zero_le (show 0≤i - u.off by omega);by_cases h2:i<u.end_
  ·have ht:u.term i=some (ent u.es (i - u.off)).term:=by unfold TlL.term;rw [if_pos ⟨h1,h2⟩]
   rw [ht,hj,ent_nat];have hjn:j<B.E.n:=by omega
   obtain ⟨b,o,hA,_,k0,_⟩:=h.E.at4 hjn;rw [hA] at c9;simp only [Option.getD_some,Option.isSome_some];have j1:i - u.off<(B.E.n:Int):=by omega
   have j3:(i - u.off).toNat=j:=by omega
   have j2:(0:Int)≤i - u.off:=by omega
   have hd:decide (u.off≤i)=true:=by rw [decide_eq_true_eq];exact h1
   have HT:=qq ht;have HJ:=qq hj;clear h hs hl hlen hE ht hA h2 hj c1 c2 c8;go_enter Tryz.func61,Tryz.ntmps61;go_wp2_with fail
   go_quiet (fail)
   go_wp2_with fail
   go_quiet (fail)
   go_wp2;go_ret2;exact ⟨rfl,_,(World.drewN_drewN _ _ _).symm⟩
  ·clear hj;rcases hh:u.has with _|_
   ·rw [hh] at c8;rw [TlL.term_none (by omega) (by rw [hh];rintro ⟨h3,_⟩;cases h3)];simp only [Option.getD_none,Option.isSome_none];clear hh;have hd:decide (u.off≤i)=true:=by rw [decide_eq_true_eq];exact h1
    have j1:¬i - u.off<(B.E.n:Int):=by omega
    have j2:(0:Int)≤i - u.off:=by omega
    clear h hs hl hlen hE;go_enter Tryz.func61,Tryz.ntmps61;go_wp2_with fail
    go_quiet (fail)
    go_wp2;go_ret2;exact ⟨rfl,_,rfl⟩
   ·rw [hh] at c8;by_cases hq:u.snap.index=i
    ·rw [TlL.term_none (by omega) (by rintro ⟨_,_,h3⟩;omega)];simp only [Option.getD_none,Option.isSome_none];rw [hq] at c1;clear hh hq;have hd:decide (u.off≤i)=true:=by rw [decide_eq_true_eq];exact h1
     have j1:¬i - u.off<(B.E.n:Int):=by omega
     have j2:(0:Int)≤i - u.off:=by omega
     have hd4:decide (i<u.off)=false:=by rw [decide_eq_false_iff_not];omega
     clear h hs hl hlen hE;go_enter Tryz.func61,Tryz.ntmps61;go_wp2_with fail
     go_quiet (fail)
     go_wp2;go_ret2;exact ⟨rfl,_,rfl⟩
    ·rw [TlL.term_none (by omega) (by rintro ⟨_,h3,_⟩;exact hq h3)];simp only [Option.getD_none,Option.isSome_none];have hq2:(u.snap.index==i)=false:=beq_eq_false_iff_ne.2 hq;clear hh;have hd:decide (u.off≤i)=true:=by rw [decide_eq_true_eq];exact h1
     have j1:¬i - u.off<(B.E.n:Int):=by omega
     have j2:(0:Int)≤i - u.off:=by omega
     clear h hs hl hlen hE;go_enter Tryz.func61,Tryz.ntmps61;go_wp2_with fail
     go_quiet (fail)
     go_wp2;go_ret2;exact ⟨rfl,_,rfl⟩
 ·rcases hh:u.has with _|_
  ·rw [hh] at c8;rw [TlL.term_none (by omega) (by rw [hh];rintro ⟨h3,_⟩;cases h3)];simp only [Option.getD_none,Option.isSome_none];clear hh;have hd:decide (u.off≤i)=false:=by rw [decide_eq_false_iff_not];exact h1
   have h1b:i<u.off:=by omega
   clear h hs hl hlen hE;go_enter Tryz.func61,Tryz.ntmps61;go_wp2_with fail
   go_quiet (fail)
   go_wp2;go_ret2;exact ⟨rfl,_,rfl⟩
  ·rw [hh] at c8;by_cases hq:u.snap.index=i
   ·rw [show u.term i=some u.snap.term by unfold TlL.term;rw [if_neg (by omega),if_pos ⟨hh,hq,by omega⟩]];simp only [Option.getD_some,Option.isSome_some];rw [hq] at c1;clear hh hq;have hd:decide (u.off≤i)=false:=by rw [decide_eq_false_iff_not];exact h1
    have h1b:i<u.off:=by omega
    have hd4:decide (i<u.off)=true:=by rw [decide_eq_true_eq];omega
    clear h hs hl hlen hE;go_enter Tryz.func61,Tryz.ntmps61;go_wp2_with fail
    go_quiet (fail)
    go_wp2;go_ret2;exact ⟨rfl,_,rfl⟩
   ·rw [TlL.term_none (by omega) (by rintro ⟨_,h3,_⟩;exact hq h3)];simp only [Option.getD_none,Option.isSome_none];have hq2:(u.snap.index==i)=false:=beq_eq_false_iff_ne.2 hq;clear hh;have hd:decide (u.off≤i)=false:=by rw [decide_eq_false_iff_not];exact h1
    have h1b:i<u.off:=by omega
    clear h hs hl hlen hE;go_enter Tryz.func61,Tryz.ntmps61;go_wp2_with fail
    go_quiet (fail)
    go_wp2;go_ret2;exact ⟨rfl,_,rfl⟩
theorem spStTerm (h:Kb N w I s) (hs:s.Sm) {i:Int} (hi0:0≤i) (hi:i<18446744073709551616):
  Calls Tryz.prog 51 #[.pointer (some ⟨I.b,0,none⟩),.int .u64 i] w fun e w'=>e=.returned (.tuple #[.int .u64 (s.term i).1,.int .i64 (s.term i).2])∧∃n,w.drewN n=w':=by
 have c12:w.cell? ⟨I.b,12,none⟩=some (.int .u64 s.atT):=h.c 12;have c13:w.cell? ⟨I.b,13,none⟩=some (.int .u64 s.atI):=h.c 13;have c14:w.cell? ⟨I.b,14,none⟩=some (.slice I.L.A I.L.n I.L.c):=h.c 14;have i0:=hs.i0;have i1:=hs.i1;have hl:=h.L.len;have hlen:=hs.len;have HL:=qq fun n=>spStLast (h.drewN n) hs;have HL0:=qq (spStLast h hs);have HF:=qq fun n=>spStFirst (h.drewN n) hs;have hE:s.last=s.atI+(I.L.n:Int):=by unfold StL.last;omega
 have hn2:I.L.n≤100000:=by omega
 unfold StL.term;by_cases h1:i<s.atI
 ·rw [if_pos h1];clear h hs hl hlen hE HL HF HL0;go_enter Tryz.func51,Tryz.ntmps51;go_wp2;go_ret2;exact ⟨rfl,0,rfl⟩
 ·rw [if_neg h1];by_cases h2:s.last<i
  ·rw [if_pos h2];clear h hs hl hlen hE;go_enter Tryz.func51,Tryz.ntmps51;go_wp2_with fail
   refine HL0.out.mono ?_;rintro r w' ⟨rfl,n,rfl⟩;go_wp2;go_ret2;exact ⟨rfl,_,rfl⟩
  ·rw [if_neg h2];by_cases h3:i=s.atI
   ·rw [if_pos h3];subst h3;clear h hs hl hlen hE;go_enter Tryz.func51,Tryz.ntmps51;go_wp2_with fail
    refine HL0.out.mono ?_;rintro r w' ⟨rfl,n,rfl⟩;go_wp2;go_ret2;exact ⟨rfl,_,rfl⟩
   ·rw [if_neg h3];obtain ⟨j,hj⟩:=Int.eq_ofNat_of_zero_le (show 0≤i - s.first by unfold StL.first;omega);obtain rfl:i=s.first+(j:Int):=by omega
    rw [hj,ent_nat];have hjn:j<I.L.n:=by unfold StL.first at h2;omega
    obtain ⟨b,o,hA,_,k0,_⟩:=h.L.at4 hjn;rw [hA] at c14;have hq:(s.first+(j:Int)==s.atI)=false:=beq_eq_false_iff_ne.2 h3;have j1:s.first+(j:Int) - s.first<(I.L.n:Int):=by omega
    have j3:(s.first+(j:Int) - s.first).toNat=j:=by omega
    have j2:(0:Int)≤s.first+(j:Int) - s.first:=by omega
    clear h hs hl hlen hE hA h3 hj;go_enter Tryz.func51,Tryz.ntmps51;go_wp2_with fail
    refine HL0.out.mono ?_;rintro r w1 ⟨rfl,n,hw1⟩;have c14':w1.cell? ⟨I.b,14,none⟩=some (.slice (some ⟨b,o,none⟩) I.L.n I.L.c):=by rw [←hw1];exact c14
    have k0':w1.cell? ⟨b,o+j*4,none⟩=some (.int .u64 (s.L.getD j default).term):=by rw [←hw1];exact k0
    have c13':w1.cell? ⟨I.b,13,none⟩=some (.int .u64 s.atI):=by rw [←hw1];exact c13
    have HF1:=HF.out n;rw [hw1] at HF1
    have HF1:=qq fun m=>(show Calls Tryz.prog 34 #[pp I.b] (w1.drewN m) fun e w'=>e=.returned (.int .u64 s.first)∧w1.drewN m=w' by
     have:=HF.out (n+m);rw [←hw1,World.drewN_drewN];exact this)
    have HW:=qq hw1;clear hw1;go_wp2_with fail
    go_quiet (first|(go_at_call 34;exact Jj (HF1.out _)))
    go_wp2;go_ret2;exact ⟨rfl,_,by rw [←HW.out];exact (World.drewN_drewN _ _ _).symm⟩
end
end Go.Proofs.YtmagnkjodjmojaaGreat
