/- A part of the proof of FnLog: laws and walks, with their conditions written at each. -/
import Derived.Test.YtmagnkjodjmojaaGreatQ10
set_option maxRecDepth 20000
set_option maxHeartbeats 4000000
set_option linter.all false
namespace Go.Proofs.YtmagnkjodjmojaaGreat
open Go.RowKit
theorem row_at {l:List Ent} (h:rowB l=true):∀j,j<l.length→(l.getD j default).index=idx0 l+j∧(l.getD j default).index≠0∧(l.getD j default).index<4611686018427387904∧(l.getD j default).term<4611686018427387904:=by
 unfold rowB at h;rw [decide_eq_true_eq] at h;intro j;induction j with
 |zero=>intro hj;have:=h 0 hj;exact ⟨by unfold idx0;omega,this.1,this.2.1,this.2.2.1⟩
 |succ j ih=>
  intro hj;have h1:=ih (by omega);have h2:=h (j+1) hj;have h3:=h2.2.2.2 (by omega);rw [Nat.add_sub_cancel] at h3;exact ⟨by rw [h3,h1.1];omega,h2.1,h2.2.1,h2.2.2.1⟩
theorem dropW (a:Int):∀(l:List Ent) (x:Int),(∀j,j<l.length→(l.getD j default).index=x+j)→(l.dropWhile fun e=>decide (e.index≤a))=l.drop (a+1 - x).toNat
 |[],_,_=>by simp
 |e::r,x,h=>by
  have h0:e.index=x:=by have:=h 0 (by simp);simpa using this
  by_cases hx:x≤a
  ·rw [List.dropWhile_cons_of_pos (by rw [h0];simpa using hx),dropW a r (x+1) (fun j hj=>by have:=h (j+1) (by simpa using hj);simp at this;rw [List.getD_eq_getElem?_getD,this];omega)];rw [show (a+1 - x).toNat=(a+1 - (x+1)).toNat+1 by omega,List.drop_succ_cons]
  ·rw [List.dropWhile_cons_of_neg (by rw [h0];simpa using hx),show (a+1 - x).toNat=0 by omega];rfl
theorem getD_drop {α:Type} {l:List α} {d:α} {k j:Nat}:(l.drop k).getD j d=l.getD (k+j) d:=by
 simp only [List.getD_eq_getElem?_getD,List.getElem?_drop]
def stS (I:SId) (k:Nat):Prop:=k=I.ms∨k=I.sn∨k=I.md∨I.es.blk k
structure Jr (w w':World) (I I':SId):Prop where
 ms:I'.ms=I.ms
 upd:Upd (stS I) w w'
 sn:I'.sn=I.sn∨w.heap.size≤I'.sn
 md:I'.md=I.md∨w.heap.size≤I'.md
 es:∀b,I'.es.blk b→I.es.blk b∨w.heap.size≤b
section
variable {N:Nat} {w w' w'':World} {J:LId} {g:LgL} {I I' I'':SId} {s s':StL}
theorem Jr.refl (w:World) (I:SId):Jr w w I I:=⟨rfl,Upd.refl _ _,.inl rfl,.inl rfl,fun _ h=>.inl h⟩
theorem Jr.trans (h:Jr w w' I I') (k:Jr w' w'' I' I''):Jr w w'' I I'':=by
 have hsz:=h.upd.size;refine ⟨k.ms.trans h.ms,h.upd.trans k.upd fun j hj=>?_,?_,?_,fun b hb=>?_⟩
 ·rcases hj with rfl|rfl|rfl|hb
  ·exact .inl (.inl h.ms)
  ·rcases h.sn with e|e
   ·exact .inl (.inr (.inl e))
   ·exact .inr e
  ·rcases h.md with e|e
   ·exact .inl (.inr (.inr (.inl e)))
   ·exact .inr e
  ·rcases h.es _ hb with e|e
   ·exact .inl (.inr (.inr (.inr e)))
   ·exact .inr e
 ·rcases k.sn with e|e
  ·rw [e];exact h.sn
  ·exact .inr (by omega)
 ·rcases k.md with e|e
  ·rw [e];exact h.md
  ·exact .inr (by omega)
 ·rcases k.es _ hb with e|e
  ·exact h.es _ e
  ·exact .inr (by omega)
theorem Jr.of (hu:Upd (fun k=>k=I.ms) w w'):Jr w w' I I:=⟨rfl,hu.mono fun _ h=>.inl h,.inl rfl,.inl rfl,fun _ h=>.inl h⟩
theorem Jr.no (hu:Upd No w w'):Jr w w' I I:=⟨rfl,hu.ofNo,.inl rfl,.inl rfl,fun _ h=>.inl h⟩
theorem Je.blkt (h:Je N w I s) {k:Nat} (hk:I.es.blk k):Ty w k 122∧N≤k:=by
 obtain ⟨h1,h2⟩:=hk;obtain ⟨b,o,cs,hA,hB,_,hN,_⟩:=h.es.arr h2;rw [hA] at h1;cases h1;exact ⟨hB.ty,hN⟩
theorem Je.mst (h:Je N w I s):Ty w I.ms 134:=by
 obtain ⟨_,_,_,_,_,_,_,hb,_⟩:=h.blk;exact hb.ty
theorem Je.snt (h:Je N w I s):Ty w I.sn 189∧Ty w I.md 235∧N≤I.sn∧N≤I.md:=by
 obtain ⟨_,_,_,_,hb1,hm1,_,_,_,_,h1,h2,_⟩:=h.sn;exact ⟨hb1.ty,hm1.ty,h1,h2⟩
theorem Jr.lu (h:Jr w w' I I') (hR:Je N w I s):Upd (LU N w) w w':=h.upd.mono fun k hk=>by
 rcases hk with rfl|rfl|rfl|hb
 ·exact ⟨hR.N,_,hR.mst,rfl⟩
 ·exact ⟨hR.snt.2.2.1,_,hR.snt.1,rfl⟩
 ·exact ⟨hR.snt.2.2.2,_,hR.snt.2.1,rfl⟩
 ·exact ⟨(hR.blkt hb).2,_,(hR.blkt hb).1,rfl⟩
theorem Jr.fr (h:Jr w w' I I') (hR:Je N w I s):Fr N w w':=LU.fr (h.lu hR)
theorem PArr.updc {S:Nat→Prop} {d:Nat} {s:SlV} {es:List Ent} (h:PArr N w d s es) (hu:Upd S w w') (hf:Fr N w w') (hS:0<s.c→∀b o,s.A=some ⟨b,o,none⟩→¬S b):PArr N w' d s es:=
 ⟨h.len,h.cap,fun hc=>by
  obtain ⟨b,o,cs,ha,hb,ho,hN,hj⟩:=h.arr hc
  exact ⟨b,o,cs,ha,hb.upd hu (hS hc b o ha),ho,hN,fun j hj'=>by
   obtain ⟨p,hp,he⟩:=hj j hj'
   exact ⟨p,hp,he.fr hf⟩⟩⟩
theorem Jf.stored (h:Jf N w J g) (hs:Je N w' I' s') (hst:Jr w w' J.I I'):Jf N w' {J with I:=I'} {g with s:=s'}∧Upd (LU N w) w w':=by
 have hf:=hst.fr h.st;have hne:∀{k:Nat} {T:TypeId},Ty w k T→T≠134→T≠122→(T=189→k≠J.I.sn)→(T=235→k≠J.I.md)→¬stS J.I k:=by
  intro k T hT h1 h2 h3 h4 hk;rcases hk with rfl|rfl|rfl|hb
  ·exact hT.ne_ h.st.mst h1 rfl
  ·by_cases e:T=189
   ·exact h3 e rfl
   ·exact hT.ne_ h.st.snt.1 e rfl
  ·by_cases e:T=235
   ·exact h4 e rfl
   ·exact hT.ne_ h.st.snt.2.1 e rfl
  ·exact hT.ne_ (h.st.blkt hb).1 h2 rfl
 have hsep:∀b o,J.ue.A=some ⟨b,o,none⟩→0<J.ue.c→¬J.I.es.blk b:=by
  intro b o hA hc ⟨h1,h2⟩;obtain ⟨b',o',cs,hA',_⟩:=h.st.es.arr h2;rw [hA'] at h1;have e:b'=b:=by simpa using h1
  exact h.sep b' o' b o hA' hA hc e
 refine ⟨⟨?_,hs,?_,?_,h.N,?_⟩,hst.lu h.st⟩
 ·have:=h.blk.upd hst.upd (hne h.blk.ty (by decide) (by decide) (fun h=>by cases h) (fun h=>by cases h))
  rw [show logCells ({J with I:=I'}:LId).I.ms J.up J.ue {g with s:=s'}=logCells J.I.ms J.up J.ue g by simp only [hst.ms];rfl];exact this
 ·refine h.ue.updc hst.upd hf fun hc b o hA hk=>?_;obtain ⟨b',o',cs,hA',hB,_⟩:=h.ue.arr hc;rw [hA] at hA';cases hA';rcases hk with e|e|e|hb
  ·exact hB.ty.ne_ h.st.mst (by decide) e
  ·exact hB.ty.ne_ h.st.snt.1 (by decide) e
  ·exact hB.ty.ne_ h.st.snt.2.1 (by decide) e
  ·exact hsep b o hA hc hb
 ·rcases h.us with h1|⟨sn,h1,h2,h3,h4,h5⟩
  ·exact .inl h1
  ·obtain ⟨_,_,_,_,hb1,hm1,_⟩:=id h3;refine .inr ⟨sn,h1,h2,h3.upd hst.upd hf (hne hb1.ty (by decide) (by decide) (fun _=>h4) (fun h=>by cases h)) (hne hm1.ty (by decide) (by decide) (fun h=>by cases h) (fun _=>h5)),?_,?_⟩
   ·rcases hst.sn with e|e
    ·rw [e];exact h4
    ·have:=hb1.lt;simp only;omega
   ·rcases hst.md with e|e
    ·rw [e];exact h5
    ·have:=hm1.lt;simp only;omega
 ·intro b o b' o' hA hA' hc e;subst e;simp only at hA hA' hc;have hIc:0<I'.es.c:=by have:=hs.es.cap;have:=hs.es.len;simp at this;omega
  rcases hst.es b ⟨by rw [hA];rfl,hIc⟩ with hb|hb
  ·exact hsep b o' hA' hc hb
  ·obtain ⟨b2,o2,cs,hA2,hB,_⟩:=h.ue.arr hc;rw [hA'] at hA2;cases hA2;have:=hB.lt;omega
theorem Je.appEs {S:Nat→Prop} (h:Je N w I s) (hu:Upd S w w') (hS:∀k,S k→I.es.blk k) (es':SlV) (s':StL) (hsn:s'.snap=s.snap) (hP:PArr N w' 1 es' (dum s'::s'.L))
  (hes:∀b,es'.blk b→I.es.blk b∨w.heap.size≤b):
  w'.cell? ⟨I.ms,2,none⟩=some (.slice I.es.A I.es.n I.es.c)∧w'.frozen? ⟨I.ms,2,none⟩=false∧
  Je N (w'.setCell ⟨I.ms,2,none⟩ (.slice es'.A es'.n es'.c)) {I with es:=es'} s'∧Jr w (w'.setCell ⟨I.ms,2,none⟩ (.slice es'.A es'.n es'.c)) I {I with es:=es'}:=by
 have hf:Fr N w w':=hu.fr fun k hs=>⟨(h.blkt (hS k hs)).2,.inr ⟨122,(h.blkt (hS k hs)).1,rfl⟩⟩;have hne:∀{k:Nat} {T:TypeId},Ty w k T→T≠122→¬S k:=fun hb ht hs=>hb.ne_ (h.blkt (hS _ hs)).1 ht rfl;obtain ⟨hp,k1,k2,k3,k4,k5,k6,hb,hh⟩:=id h.blk;have hB:=hb.upd hu (hne hb.ty (by decide));have hu2:Upd (fun k=>k=I.ms) w' (w'.setCell ⟨I.ms,2,none⟩ es'.v):=(Upd.refl (fun k=>k=I.ms) w').setIn rfl 2 _;have hf2:Fr N w' (w'.setCell ⟨I.ms,2,none⟩ es'.v):=hu2.fr (by rintro k rfl;exact hB.mutb h.N rfl);have hsn1:=h.sn.upd hu hf (hne h.snt.1 (by decide)) (hne h.snt.2.1 (by decide));obtain ⟨_,_,_,_,hb1,hm1,_⟩:=id hsn1;refine ⟨hB.cell 2,hB.frozen 2,⟨⟨hp,k1,k2,k3,k4,k5,k6,hB.set_ 2 _,(hh.fr hf).fr hf2⟩,?_,hP.upd_ hu2 hf2 (by rintro b rfl ht;exact hB.ty.ne_ ht (by decide) rfl),h.N⟩,⟨rfl,?_,.inl rfl,.inl rfl,hes⟩⟩
 ·rw [hsn];exact hsn1.upd hu2 hf2 (fun hk=>hb1.ne_ hB (by decide) hk) (fun hk=>hm1.ne_ hB (by decide) hk)
 ·exact (hu.mono fun k hs=>(.inr (.inr (.inr (hS k hs))):stS I k)).trans hu2 fun k hk=>.inl (.inl hk)
theorem SlV.as {d:Nat} {S:SlV} {es:List Ent} {A:Option Addr} (hA:S.A=A) (h:PArr N w d S es):PArr N w d ⟨A,S.n,S.c⟩ es:=by subst hA;exact h
theorem stApp_0t {t:SlV} {l:List Ent} {m:Nat} (h:Je N w I s) (ho:s.Ok) (hp:PArr N w 0 t l) (hl:l.length≠0) (hlen:l.length≤1000) (hrow:∀j,j<l.length→(l.getD j default).index=idx0 l+j) (hi:idx0 l=s.atI+(m:Int)) (hm1:1≤m) (hT:m<I.es.n) (hs':∃L',s'= {s with L:=L'}∧dum s::L'=(dum s::s.L).take m++l):
  Calls Tryz.prog 123 #[.pointer (some ⟨I.ms,0,none⟩),.slice t.A t.n t.c] w fun e w'=>e=.returned .nilIface∧∃I',Je N w' I' s'∧Jr w w' I I':=by
 obtain ⟨L',rfl,hL'⟩:=hs';have i0:=ho.i0;have i1:=ho.atI_lt;have htl:=hp.len;have hn1:t.n≤1000:=by omega
 obtain ⟨b1,o1,p1,hA1,hc1,⟨_,ip1,_,_,q1,_,q3,_⟩,hne1⟩:=h.ents_at (j:=0) (by omega);simp only [List.getD_cons_zero,Nat.add_zero] at hc1 q3;change OptInt w 23 .u64 ip1 s.atI at q3;obtain ⟨b0,o0,p0,hA0,hc0,⟨_,ip0,_,_,r1,_,r3,_⟩⟩:=hp.at_ (k:=0) (by omega);rw [Nat.add_zero] at hc0;have hix:(l.getD 0 default).index=s.atI+(m:Int):=hi;rw [hix] at r3;have hn:=h.n;have hes0:=h.es.cap;have hnn:I.es.n≤20001:=by have:=ho.len;omega
 have c2:=h.c2;rw [hA1] at c2;have HF:=qq (show Calls Tryz.prog 187 #[pp I.ms] w fun e w'=>e=.returned (.int .u64 (s.atI+1))∧w=w' from st_first h ho);obtain ⟨tA,tn,tc⟩:=t;simp only at hA0 htl hn1 ⊢;subst hA0;have htc:tn≤tc:=hp.cap;have hz:((tn:Int)==0)=false:=beq_eq_false_iff_ne.2 (by omega);have hn0:(0:Int)<(tn:Int):=by omega
 have he0:(0:Int)<(I.es.n:Int):=by omega
 have HH:=qq fun (w':World) (hu:Upd No w w')=>(show Je N w' I s from h.upd hu hu.fr0 (fun h=>h) (fun h=>h) (fun h=>h) (fun _ _ _ h=>h));have HP:=qq fun (w':World) (hu:Upd No w w')=>hp.upd hu hu.fr0 (fun _ _ _ h=>h);have hg0:¬s.atI+(m:Int)<s.atI+1:=by omega
 have hm2:s.atI+(m:Int) - s.atI=(m:Int):=by omega
 have HT:=qq fun (w':World) (hu:Upd No w w')=>(show PArr N w' 1 ⟨some ⟨b1,o1,none⟩,m,m⟩ ((dum s::s.L).take m) from by
  have:=((HH.out w' hu).es).take_ (k:=m) (c:=m) (by omega) (Nat.le_refl _) (by omega);rw [hA1] at this;exact this)
 have HB:=qq (show ∀j,(⟨some ⟨b1,o1,none⟩,m,m⟩:SlV).blk j→I.es.blk j by
  rintro j ⟨h1,h2⟩
  exact ⟨by rw [hA1];exact h1,by omega⟩)
 have hm5:(m:Int)≤(I.es.c:Int):=by omega
 have hm6:(m:Int)<(I.es.n:Int):=by omega
 have HBD:=qq (show (⟨some ⟨b1,o1,none⟩,m,m⟩:SlV).n+(⟨some ⟨b0,o0,none⟩,tn,tc⟩:SlV).n≤1000000 by simp only;omega);have HL':=qq hL';have hms:b1≠I.ms:=hne1;have HNL:=qq fun (m:Nat)=>(show N≤(w.drewN m).heap.size from Nat.le_of_lt (Nat.lt_of_le_of_lt h.N h.mst.lt));have HNO:=qq fun (n m:Nat)=>((Upd.refl No w).drewN n).drewN m;have HNO1:=qq fun (n:Nat)=>((Upd.refl No w).drewN n);clear h ho hp hrow hL' hA1 hlen htl hl hn hne1 hi hT hix;go_enter Tryz.func123,Tryz.ntmps123;go_wp2_with fail
 refine HF.out.mono ?_;rintro r w' ⟨rfl,rfl⟩;go_wp2_with fail
 refine (ent_index r1 r3).mono ?_;rintro r w' ⟨rfl,rfl⟩;go_wp2_with fail
 refine (ent_index r1 r3).mono ?_;rintro r w' ⟨rfl,rfl⟩;go_wp2_with fail
 go_quiet (first|(go_at_call 150;first|exact Jj (ent_index r1 r3)|exact Jj (ent_index q1 q3)))
 go_wp2_with (with_reducible refine app_parr (s:=⟨some ⟨b1,o1,none⟩,m,m⟩) (t:=⟨some ⟨b0,o0,none⟩,tn,tc⟩) rfl (.tmp 68) (.tmp 69) rfl rfl rfl (HT.out _ (HNO1.out _)) (HP.out _ (HNO1.out _)) HBD.out (HNL.out _) ?_)
 intro s1 w2 hP2 hU2 hA2 hn2;clear hn2
 have X:=(HH.out _ (HNO1.out _)).appEs (N:=N) hU2 HB.out s1 {s with L:=L'} rfl (by rw [show dum {s with L:=L'}=dum s from rfl];rw [HL'.out];exact hP2) (fun b hb=>by
  obtain ⟨h1,h2⟩:=hb;obtain ⟨b',o',cs',hA',_⟩:=hP2.arr h2;have h1':=h1;rw [hA'] at h1';have e:b'=b:=by simpa using h1'
  subst e;rcases hA2 b' o' h2 hA' with h3|h3
  ·exact .inl (HB.out b' ⟨(by first|exact congrArg some h3.1.1|exact congrArg some h3.1:some b1=some b'),(by simp only;omega)⟩)
  ·exact .inr h3)
 obtain ⟨z2,f2,HR,HU⟩:=X;have HR:=qq HR;have HU:=qq HU;go_wp2;go_ret;exact ⟨rfl,{I with es:=s1},HR.out,(Jr.no (HNO1.out _)).trans HU.out⟩
theorem stApp_0i {t:SlV} {l:List Ent} {m:Nat} (h:Je N w I s) (ho:s.Ok) (hp:PArr N w 0 t l) (hl:l.length≠0) (hlen:l.length≤1000) (hrow:∀j,j<l.length→(l.getD j default).index=idx0 l+j) (hi:idx0 l=s.atI+(m:Int)) (hm1:1≤m) (hT:m=I.es.n) (hs':∃L',s'= {s with L:=L'}∧dum s::L'=(dum s::s.L).take m++l):
  Calls Tryz.prog 123 #[.pointer (some ⟨I.ms,0,none⟩),.slice t.A t.n t.c] w fun e w'=>e=.returned .nilIface∧∃I',Je N w' I' s'∧Jr w w' I I':=by
 obtain ⟨L',rfl,hL'⟩:=hs';have i0:=ho.i0;have i1:=ho.atI_lt;have htl:=hp.len;have hn1:t.n≤1000:=by omega
 obtain ⟨b1,o1,p1,hA1,hc1,⟨_,ip1,_,_,q1,_,q3,_⟩,hne1⟩:=h.ents_at (j:=0) (by omega);simp only [List.getD_cons_zero,Nat.add_zero] at hc1 q3;change OptInt w 23 .u64 ip1 s.atI at q3;obtain ⟨b0,o0,p0,hA0,hc0,⟨_,ip0,_,_,r1,_,r3,_⟩⟩:=hp.at_ (k:=0) (by omega);rw [Nat.add_zero] at hc0;have hix:(l.getD 0 default).index=s.atI+(m:Int):=hi;rw [hix] at r3;have hn:=h.n;have hes0:=h.es.cap;have hnn:I.es.n≤20001:=by have:=ho.len;omega
 have c2:=h.c2;rw [hA1] at c2;have HF:=qq (show Calls Tryz.prog 187 #[pp I.ms] w fun e w'=>e=.returned (.int .u64 (s.atI+1))∧w=w' from st_first h ho);obtain ⟨tA,tn,tc⟩:=t;simp only at hA0 htl hn1 ⊢;subst hA0;have htc:tn≤tc:=hp.cap;have hz:((tn:Int)==0)=false:=beq_eq_false_iff_ne.2 (by omega);have hn0:(0:Int)<(tn:Int):=by omega
 have he0:(0:Int)<(I.es.n:Int):=by omega
 have HH:=qq fun (w':World) (hu:Upd No w w')=>(show Je N w' I s from h.upd hu hu.fr0 (fun h=>h) (fun h=>h) (fun h=>h) (fun _ _ _ h=>h));have HP:=qq fun (w':World) (hu:Upd No w w')=>hp.upd hu hu.fr0 (fun _ _ _ h=>h);have hg0:¬s.atI+(m:Int)<s.atI+1:=by omega
 have hm2:s.atI+(m:Int) - s.atI=(m:Int):=by omega
 have HT:=qq fun (w':World) (hu:Upd No w w')=>(show PArr N w' 1 ⟨some ⟨b1,o1,none⟩,I.es.n,I.es.c⟩ ((dum s::s.L).take m) from by
  have:=(HH.out w' hu).es
  rw [show (dum s::s.L).take m=dum s::s.L by rw [hT,h.es.len.symm,List.take_length]]
  exact SlV.as hA1 this)
 have HB:=qq (show ∀j,(⟨some ⟨b1,o1,none⟩,I.es.n,I.es.c⟩:SlV).blk j→I.es.blk j by
  rintro j ⟨h1,h2⟩
  exact ⟨by rw [hA1];exact h1,h2⟩)
 have hm6:¬(m:Int)<(I.es.n:Int):=by omega
 have hm8:(I.es.n:Int)=(m:Int):=by omega
 have HBD:=qq (show (⟨some ⟨b1,o1,none⟩,I.es.n,I.es.c⟩:SlV).n+(⟨some ⟨b0,o0,none⟩,tn,tc⟩:SlV).n≤1000000 by simp only;omega);have HL':=qq hL';have hms:b1≠I.ms:=hne1;have HNL:=qq fun (m:Nat)=>(show N≤(w.drewN m).heap.size from Nat.le_of_lt (Nat.lt_of_le_of_lt h.N h.mst.lt));have HNO:=qq fun (n m:Nat)=>((Upd.refl No w).drewN n).drewN m;have HNO1:=qq fun (n:Nat)=>((Upd.refl No w).drewN n);clear h ho hp hrow hL' hA1 hlen htl hl hn hne1 hi hT hix;go_enter Tryz.func123,Tryz.ntmps123;go_wp2_with fail
 refine HF.out.mono ?_;rintro r w' ⟨rfl,rfl⟩;go_wp2_with fail
 refine (ent_index r1 r3).mono ?_;rintro r w' ⟨rfl,rfl⟩;go_wp2_with fail
 refine (ent_index r1 r3).mono ?_;rintro r w' ⟨rfl,rfl⟩;go_wp2_with fail
 go_quiet (first|(go_at_call 150;first|exact Jj (ent_index r1 r3)|exact Jj (ent_index q1 q3)))
 go_wp2_with (with_reducible refine app_parr (s:=⟨some ⟨b1,o1,none⟩,I.es.n,I.es.c⟩) (t:=⟨some ⟨b0,o0,none⟩,tn,tc⟩) rfl (.tmp 86) (.tmp 87) rfl rfl rfl (HT.out _ (HNO1.out _)) (HP.out _ (HNO1.out _)) HBD.out (HNL.out _) ?_)
 intro s1 w2 hP2 hU2 hA2 hn2;clear hn2
 have X:=(HH.out _ (HNO1.out _)).appEs (N:=N) hU2 HB.out s1 {s with L:=L'} rfl (by rw [show dum {s with L:=L'}=dum s from rfl];rw [HL'.out];exact hP2) (fun b hb=>by
  obtain ⟨h1,h2⟩:=hb;obtain ⟨b',o',cs',hA',_⟩:=hP2.arr h2;have h1':=h1;rw [hA'] at h1';have e:b'=b:=by simpa using h1'
  subst e;rcases hA2 b' o' h2 hA' with h3|h3
  ·exact .inl (HB.out b' ⟨(by first|exact congrArg some h3.1.1|exact congrArg some h3.1:some b1=some b'),(by simp only;omega)⟩)
  ·exact .inr h3)
 obtain ⟨z2,f2,HR,HU⟩:=X;have HR:=qq HR;have HU:=qq HU;go_wp2;go_ret;exact ⟨rfl,{I with es:=s1},HR.out,(Jr.no (HNO1.out _)).trans HU.out⟩
theorem stApp_kt {t:SlV} {l:List Ent} {k:Nat} (h:Je N w I s) (ho:s.Ok) (hp:PArr N w 0 t l) (hl:l.length≠0) (hlen:l.length≤1000) (hrow:∀j,j<l.length→(l.getD j default).index=idx0 l+j) (hi:s.atI+1 - idx0 l=(k:Int)) (hk0:0<k) (hkl:k<l.length) (hx0:0≤idx0 l) (hT:1<I.es.n) (hs':∃L',s'= {s with L:=L'}∧dum s::L'=(dum s::s.L).take 1++l.drop k):
  Calls Tryz.prog 123 #[.pointer (some ⟨I.ms,0,none⟩),.slice t.A t.n t.c] w fun e w'=>e=.returned .nilIface∧∃I',Je N w' I' s'∧Jr w w' I I':=by
 obtain ⟨L',rfl,hL'⟩:=hs';have i0:=ho.i0;have i1:=ho.atI_lt;have htl:=hp.len;have hn1:t.n≤1000:=by omega
 obtain ⟨b1,o1,p1,hA1,hc1,⟨_,ip1,_,_,q1,_,q3,_⟩,hne1⟩:=h.ents_at (j:=0) (by omega);simp only [List.getD_cons_zero,Nat.add_zero] at hc1 q3;change OptInt w 23 .u64 ip1 s.atI at q3;obtain ⟨b0,o0,p0,hA0,hc0,⟨_,ip0,_,_,r1,_,r3,_⟩⟩:=hp.at_ (k:=0) (by omega);rw [Nat.add_zero] at hc0;obtain ⟨bk,ok,pk,hAk,hck,⟨_,ipk,_,_,s1,_,s3,_⟩⟩:=hp.at_ (k:=k) (by omega);rw [hA0] at hAk;cases hAk;have hix:(l.getD k default).index=s.atI+1:=by rw [hrow k hkl];omega
 rw [hix] at s3;change OptInt w 23 .u64 ip0 (idx0 l) at r3;have hn:=h.n;have hes0:=h.es.cap;have hnn:I.es.n≤20001:=by have:=ho.len;omega
 have c2:=h.c2;rw [hA1] at c2;have HF:=qq (show Calls Tryz.prog 187 #[pp I.ms] w fun e w'=>e=.returned (.int .u64 (s.atI+1))∧w=w' from st_first h ho);obtain ⟨tA,tn,tc⟩:=t;simp only at hA0 htl hn1 ⊢;subst hA0;have htc:tn≤tc:=hp.cap;have hz:((tn:Int)==0)=false:=beq_eq_false_iff_ne.2 (by omega);have hn0:(0:Int)<(tn:Int):=by omega
 have he0:(0:Int)<(I.es.n:Int):=by omega
 have HH:=qq fun (w':World) (hu:Upd No w w')=>(show Je N w' I s from h.upd hu hu.fr0 (fun h=>h) (fun h=>h) (fun h=>h) (fun _ _ _ h=>h))
 have HP:=qq fun (w':World) (hu:Upd No w w')=>(show PArr N w' 0 ⟨some ⟨b0,o0+k,none⟩,tn - k,tc - k⟩ (l.drop k) from by
  have:=(hp.upd hu hu.fr0 (fun _ _ _ h=>h)).drop_ (a:=k) (by omega);rwa [Nat.zero_sub] at this)
 obtain ⟨x,hx⟩:∃x,x=idx0 l:=⟨_,rfl⟩;rw [←hx] at hi hx0 r3;have hg0:x<s.atI+1:=by omega
 have hg1:¬x+(tn:Int) - 1<s.atI+1:=by omega
 have hm2:s.atI+1 - s.atI=1:=by omega
 have hk3:(k:Int)≤(tn:Int):=by omega
 have hkn:k<tn:=by omega
 have hkpos:(0:Int)<((tn - k:Nat):Int):=by omega
 have HT:=qq fun (w':World) (hu:Upd No w w')=>(show PArr N w' 1 ⟨some ⟨b1,o1,none⟩,1,1⟩ ((dum s::s.L).take 1) from by
  have:=((HH.out w' hu).es).take_ (k:=1) (c:=1) (by omega) (Nat.le_refl _) (by omega);rw [hA1] at this;exact this)
 have HB:=qq (show ∀j,(⟨some ⟨b1,o1,none⟩,1,1⟩:SlV).blk j→I.es.blk j by
  rintro j ⟨h1,h2⟩
  exact ⟨by rw [hA1];exact h1,by omega⟩)
 have hm5:(1:Int)≤(I.es.c:Int):=by omega
 have hm6:(1:Int)<(I.es.n:Int):=by omega
 have hm7:1≤I.es.c:=by omega
 have HBD:=qq (show (⟨some ⟨b1,o1,none⟩,1,1⟩:SlV).n+(⟨some ⟨b0,o0+k,none⟩,tn - k,tc - k⟩:SlV).n≤1000000 by simp only;omega);have HL':=qq hL';have hms:b1≠I.ms:=hne1;have HNL:=qq fun (m:Nat)=>(show N≤(w.drewN m).heap.size from Nat.le_of_lt (Nat.lt_of_le_of_lt h.N h.mst.lt));have HNO:=qq fun (n m:Nat)=>((Upd.refl No w).drewN n).drewN m;have HNO1:=qq fun (n:Nat)=>((Upd.refl No w).drewN n);clear h ho hp hrow hL' hA1 hlen htl hl hn hne1 hT hx hix hkl;go_enter Tryz.func123,Tryz.ntmps123;go_wp2_with fail
 refine HF.out.mono ?_;rintro r w' ⟨rfl,rfl⟩;go_wp2_with fail
 refine (ent_index r1 r3).mono ?_;rintro r w' ⟨rfl,rfl⟩;go_wp2_with fail
 refine (ent_index r1 r3).mono ?_;rintro r w' ⟨rfl,rfl⟩;go_wp2_with fail
 refine (ent_index r1 r3).mono ?_;rintro r w' ⟨rfl,rfl⟩;go_wp2_with fail
 go_quiet (first|(go_at_call 150;first|exact Jj (ent_index s1 s3)|exact Jj (ent_index q1 q3)))
 go_wp2_with (with_reducible refine app_parr (s:=⟨some ⟨b1,o1,none⟩,1,1⟩) (t:=⟨some ⟨b0,o0+k,none⟩,tn - k,tc - k⟩) rfl (.tmp 68) (.tmp 69) rfl rfl rfl (HT.out _ (HNO1.out _)) (HP.out _ (HNO1.out _)) HBD.out (HNL.out _) ?_)
 intro s1 w2 hP2 hU2 hA2 hn2;clear hn2
 have X:=(HH.out _ (HNO1.out _)).appEs (N:=N) hU2 HB.out s1 {s with L:=L'} rfl (by rw [show dum {s with L:=L'}=dum s from rfl];rw [HL'.out];exact hP2) (fun b hb=>by
  obtain ⟨h1,h2⟩:=hb;obtain ⟨b',o',cs',hA',_⟩:=hP2.arr h2;have h1':=h1;rw [hA'] at h1';have e:b'=b:=by simpa using h1'
  subst e;rcases hA2 b' o' h2 hA' with h3|h3
  ·exact .inl (HB.out b' ⟨(by first|exact congrArg some h3.1.1|exact congrArg some h3.1:some b1=some b'),(by simp only;omega)⟩)
  ·exact .inr h3)
 obtain ⟨z2,f2,HR,HU⟩:=X;have HR:=qq HR;have HU:=qq HU;go_wp2;go_ret;exact ⟨rfl,{I with es:=s1},HR.out,(Jr.no (HNO1.out _)).trans HU.out⟩
theorem stApp_ki {t:SlV} {l:List Ent} {k:Nat} (h:Je N w I s) (ho:s.Ok) (hp:PArr N w 0 t l) (hl:l.length≠0) (hlen:l.length≤1000) (hrow:∀j,j<l.length→(l.getD j default).index=idx0 l+j) (hi:s.atI+1 - idx0 l=(k:Int)) (hk0:0<k) (hkl:k<l.length) (hx0:0≤idx0 l) (hT:1=I.es.n) (hs':∃L',s'= {s with L:=L'}∧dum s::L'=(dum s::s.L).take 1++l.drop k):
  Calls Tryz.prog 123 #[.pointer (some ⟨I.ms,0,none⟩),.slice t.A t.n t.c] w fun e w'=>e=.returned .nilIface∧∃I',Je N w' I' s'∧Jr w w' I I':=by
 obtain ⟨L',rfl,hL'⟩:=hs';have i0:=ho.i0;have i1:=ho.atI_lt;have htl:=hp.len;have hn1:t.n≤1000:=by omega
 obtain ⟨b1,o1,p1,hA1,hc1,⟨_,ip1,_,_,q1,_,q3,_⟩,hne1⟩:=h.ents_at (j:=0) (by omega);simp only [List.getD_cons_zero,Nat.add_zero] at hc1 q3;change OptInt w 23 .u64 ip1 s.atI at q3;obtain ⟨b0,o0,p0,hA0,hc0,⟨_,ip0,_,_,r1,_,r3,_⟩⟩:=hp.at_ (k:=0) (by omega);rw [Nat.add_zero] at hc0;obtain ⟨bk,ok,pk,hAk,hck,⟨_,ipk,_,_,s1,_,s3,_⟩⟩:=hp.at_ (k:=k) (by omega);rw [hA0] at hAk;cases hAk;have hix:(l.getD k default).index=s.atI+1:=by rw [hrow k hkl];omega
 rw [hix] at s3;change OptInt w 23 .u64 ip0 (idx0 l) at r3;have hn:=h.n;have hes0:=h.es.cap;have hnn:I.es.n≤20001:=by have:=ho.len;omega
 have c2:=h.c2;rw [hA1] at c2;have HF:=qq (show Calls Tryz.prog 187 #[pp I.ms] w fun e w'=>e=.returned (.int .u64 (s.atI+1))∧w=w' from st_first h ho);obtain ⟨tA,tn,tc⟩:=t;simp only at hA0 htl hn1 ⊢;subst hA0;have htc:tn≤tc:=hp.cap;have hz:((tn:Int)==0)=false:=beq_eq_false_iff_ne.2 (by omega);have hn0:(0:Int)<(tn:Int):=by omega
 have he0:(0:Int)<(I.es.n:Int):=by omega
 have HH:=qq fun (w':World) (hu:Upd No w w')=>(show Je N w' I s from h.upd hu hu.fr0 (fun h=>h) (fun h=>h) (fun h=>h) (fun _ _ _ h=>h))
 have HP:=qq fun (w':World) (hu:Upd No w w')=>(show PArr N w' 0 ⟨some ⟨b0,o0+k,none⟩,tn - k,tc - k⟩ (l.drop k) from by
  have:=(hp.upd hu hu.fr0 (fun _ _ _ h=>h)).drop_ (a:=k) (by omega);rwa [Nat.zero_sub] at this)
 obtain ⟨x,hx⟩:∃x,x=idx0 l:=⟨_,rfl⟩;rw [←hx] at hi hx0 r3;have hg0:x<s.atI+1:=by omega
 have hg1:¬x+(tn:Int) - 1<s.atI+1:=by omega
 have hm2:s.atI+1 - s.atI=1:=by omega
 have hk3:(k:Int)≤(tn:Int):=by omega
 have hkn:k<tn:=by omega
 have hkpos:(0:Int)<((tn - k:Nat):Int):=by omega
 have HT:=qq fun (w':World) (hu:Upd No w w')=>(show PArr N w' 1 ⟨some ⟨b1,o1,none⟩,I.es.n,I.es.c⟩ ((dum s::s.L).take 1) from by
  have:=(HH.out w' hu).es
  rw [show (dum s::s.L).take 1=dum s::s.L by rw [hT,h.es.len.symm,List.take_length]]
  exact SlV.as hA1 this)
 have HB:=qq (show ∀j,(⟨some ⟨b1,o1,none⟩,I.es.n,I.es.c⟩:SlV).blk j→I.es.blk j by
  rintro j ⟨h1,h2⟩
  exact ⟨by rw [hA1];exact h1,h2⟩)
 have hm6:¬1<(I.es.n:Int):=by omega
 have hm8:(I.es.n:Int)=1:=by omega
 have HBD:=qq (show (⟨some ⟨b1,o1,none⟩,I.es.n,I.es.c⟩:SlV).n+(⟨some ⟨b0,o0+k,none⟩,tn - k,tc - k⟩:SlV).n≤1000000 by simp only;omega);have HL':=qq hL';have hms:b1≠I.ms:=hne1;have HNL:=qq fun (m:Nat)=>(show N≤(w.drewN m).heap.size from Nat.le_of_lt (Nat.lt_of_le_of_lt h.N h.mst.lt));have HNO:=qq fun (n m:Nat)=>((Upd.refl No w).drewN n).drewN m;have HNO1:=qq fun (n:Nat)=>((Upd.refl No w).drewN n);clear h ho hp hrow hL' hA1 hlen htl hl hn hne1 hT hx hix hkl;go_enter Tryz.func123,Tryz.ntmps123;go_wp2_with fail
 refine HF.out.mono ?_;rintro r w' ⟨rfl,rfl⟩;go_wp2_with fail
 refine (ent_index r1 r3).mono ?_;rintro r w' ⟨rfl,rfl⟩;go_wp2_with fail
 refine (ent_index r1 r3).mono ?_;rintro r w' ⟨rfl,rfl⟩;go_wp2_with fail
 refine (ent_index r1 r3).mono ?_;rintro r w' ⟨rfl,rfl⟩;go_wp2_with fail
 go_quiet (first|(go_at_call 150;first|exact Jj (ent_index s1 s3)|exact Jj (ent_index q1 q3)))
 go_wp2_with (with_reducible refine app_parr (s:=⟨some ⟨b1,o1,none⟩,I.es.n,I.es.c⟩) (t:=⟨some ⟨b0,o0+k,none⟩,tn - k,tc - k⟩) rfl (.tmp 86) (.tmp 87) rfl rfl rfl (HT.out _ (HNO1.out _)) (HP.out _ (HNO1.out _)) HBD.out (HNL.out _) ?_)
 intro s1 w2 hP2 hU2 hA2 hn2;clear hn2
 have X:=(HH.out _ (HNO1.out _)).appEs (N:=N) hU2 HB.out s1 {s with L:=L'} rfl (by rw [show dum {s with L:=L'}=dum s from rfl];rw [HL'.out];exact hP2) (fun b hb=>by
  obtain ⟨h1,h2⟩:=hb;obtain ⟨b',o',cs',hA',_⟩:=hP2.arr h2;have h1':=h1;rw [hA'] at h1';have e:b'=b:=by simpa using h1'
  subst e;rcases hA2 b' o' h2 hA' with h3|h3
  ·exact .inl (HB.out b' ⟨(by first|exact congrArg some h3.1.1|exact congrArg some h3.1:some b1=some b'),(by simp only;omega)⟩)
  ·exact .inr h3)
 obtain ⟨z2,f2,HR,HU⟩:=X;have HR:=qq HR;have HU:=qq HU;go_wp2;go_ret;exact ⟨rfl,{I with es:=s1},HR.out,(Jr.no (HNO1.out _)).trans HU.out⟩
theorem cons_take (s:StL) {m:Nat} (hm:1≤m):(dum s::s.L).take m=dum s::s.L.take (m - 1):=by
 obtain ⟨k,rfl⟩:∃k,m=k+1:=⟨m - 1,by omega⟩;simp
theorem stApp_nil {t:SlV} (h:Je N w I s) (hn:t.n=0):
  Calls Tryz.prog 123 #[.pointer (some ⟨I.ms,0,none⟩),.slice t.A t.n t.c] w fun e w'=>e=.returned .nilIface∧w=w':=by
 rw [hn];clear h hn;go_enter Tryz.func123,Tryz.ntmps123;go_wp2;go_ret;exact ⟨rfl,rfl⟩
theorem stApp_low {t:SlV} {l:List Ent} (h:Je N w I s) (ho:s.Ok) (hp:PArr N w 0 t l) (hl:l.length≠0) (hlen:l.length≤1000) (hx0:1≤idx0 l) (hi:idx0 l+l.length≤s.atI+1):
  Calls Tryz.prog 123 #[.pointer (some ⟨I.ms,0,none⟩),.slice t.A t.n t.c] w fun e w'=>e=.returned .nilIface∧w=w':=by
 have i1:=ho.atI_lt;have i0:=ho.i0;have htl:=hp.len;have hn1:t.n≤1000:=by omega
 obtain ⟨b0,o0,p0,hA0,hc0,⟨_,ip0,_,_,r1,_,r3,_⟩⟩:=hp.at_ (k:=0) (by omega);rw [Nat.add_zero] at hc0;change OptInt w 23 .u64 ip0 (idx0 l) at r3;have HF:=qq (show Calls Tryz.prog 187 #[pp I.ms] w fun e w'=>e=.returned (.int .u64 (s.atI+1))∧w=w' from st_first h ho);have hz:((t.n:Int)==0)=false:=beq_eq_false_iff_ne.2 (by omega);have hn0:(0:Int)<(t.n:Int):=by omega
 have hg:idx0 l+(t.n:Int) - 1<s.atI+1:=by omega
 generalize idx0 l=x at*;clear h ho hp hlen htl hl hi;go_enter Tryz.func123,Tryz.ntmps123;rw [hA0];clear hA0;go_wp2_with fail
 refine HF.out.mono ?_;rintro r w' ⟨rfl,rfl⟩;go_wp2_with fail
 refine (ent_index r1 r3).mono ?_;rintro r w' ⟨rfl,rfl⟩;go_wp2;go_ret;exact ⟨rfl,rfl⟩
theorem stAppend {t:SlV} {l:List Ent} (h:Je N w I s) (ho:s.Ok) (hp:PArr N w 0 t l) (ha:s.append l=some s') (hlen:l.length≤1000) (hx0:l.length≠0→0≤idx0 l):
  Calls Tryz.prog 123 #[.pointer (some ⟨I.ms,0,none⟩),.slice t.A t.n t.c] w fun e w'=>e=.returned .nilIface∧∃I',Je N w' I' s'∧Jr w w' I I':=by
 have htl:=hp.len;have hn:=h.n;unfold StL.append at ha;split at ha;rotate_left
 ·cases ha
 rename_i hr
 obtain ⟨hr1,hr2⟩:=hr;have hrow:=row_at hr1;rw [dropW s.atI l (idx0 l) (fun j hj=>(hrow j hj).1)] at ha;have hsame:s'=s→(Calls Tryz.prog 123 #[pp I.ms,t.v] w fun e w'=>e=.returned .nilIface∧w=w')→Calls Tryz.prog 123 #[pp I.ms,t.v] w fun e w'=>e=.returned .nilIface∧∃I',Je N w' I' s'∧Jr w w' I I':=by
  rintro rfl hc;refine hc.mono ?_;rintro e w1 ⟨h1,rfl⟩;exact ⟨h1,I,h,Jr.refl _ _⟩
 by_cases hl:l.length=0
 ·have:s'=s:=by
   rw [if_neg (by simp;omega)] at ha;cases ha;rfl
  exact hsame this (stApp_nil h (by omega))
 have hx1:=(hrow 0 (by omega)).2.1;have hx2:idx0 l≠0:=hx1;have hx:=hx0 hl;by_cases hlow:idx0 l+l.length≤s.atI+1
 ·have:s'=s:=by
   rw [if_neg (by simp;omega)] at ha;cases ha;rfl
  exact hsame this (stApp_low h ho hp hl hlen (by omega) hlow)
 rw [if_pos (by simp;omega)] at ha;have hs':=(Option.some.inj ha).symm;have hbd:idx0 l≤s.last+1:=by
  rcases Int.lt_or_le (s.last+1) (idx0 l) with h1|h1
  ·exact absurd ⟨by omega,h1⟩ hr2
  ·exact h1
 by_cases hk:idx0 l≤s.atI
 ·obtain ⟨k,hk1⟩:=Int.eq_ofNat_of_zero_le (show 0≤s.atI+1 - idx0 l by omega);have hk2:(s.atI+1 - idx0 l).toNat=k:=by omega
  have hkl:k<l.length:=by omega
  have hix:idx0 (l.drop k)=s.atI+1:=by
   unfold idx0;rw [getD_drop,Nat.add_zero,(hrow k hkl).1];unfold idx0 at hk1 ⊢;omega
  rw [hk2,hix,show (s.atI+1 - s.first).toNat=0 by unfold StL.first;omega,List.take_zero,List.nil_append] at hs';have hex:∃L',s'= {s with L:=L'}∧dum s::L'=(dum s::s.L).take 1++l.drop k:=⟨_,hs',by simp⟩;by_cases hT:1<I.es.n
  ·exact stApp_kt h ho hp hl hlen (fun j hj=>(hrow j hj).1) hk1 (by omega) hkl hx hT hex
  ·exact stApp_ki h ho hp hl hlen (fun j hj=>(hrow j hj).1) hk1 (by omega) hkl hx (by omega) hex
 ·obtain ⟨m,hm⟩:=Int.eq_ofNat_of_zero_le (show 0≤idx0 l - s.atI by omega);have hm1:idx0 l=s.atI+(m:Int):=by omega
  rw [show (s.atI+1 - idx0 l).toNat=0 by omega,List.drop_zero,show (idx0 l - s.first).toNat=m - 1 by unfold StL.first;omega] at hs';have hex:∃L',s'= {s with L:=L'}∧dum s::L'=(dum s::s.L).take m++l:=⟨_,hs',by rw [cons_take s (by omega)];rfl⟩;have hmn:m≤I.es.n:=by unfold StL.last at hbd;omega
  by_cases hT:m<I.es.n
  ·exact stApp_0t h ho hp hl hlen (fun j hj=>(hrow j hj).1) hm1 (by omega) hT hex
  ·exact stApp_0i h ho hp hl hlen (fun j hj=>(hrow j hj).1) hm1 (by omega) (by omega) hex
end
end Go.Proofs.YtmagnkjodjmojaaGreat
