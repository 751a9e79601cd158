/- A part of the proof of FnLog: laws and walks, with their conditions written at each. -/
import Derived.Deep.AppendSrc
import Derived.Test.YtmagnkjodjmojaaGreatQ08
set_option maxRecDepth 20000
set_option maxHeartbeats 4000000
set_option linter.all false
namespace Go.Proofs.YtmagnkjodjmojaaGreat
open Go.RowKit
section
variable {N:Nat} {w w':World} {J:LId} {g:LgL}
theorem Jf.st_lt (h:Jf N w J g) {b o:Nat} (hA:J.I.es.A=some ⟨b,o,none⟩):b<w.heap.size:=by
 obtain ⟨g',o'',cs,hA'',hB,_⟩:=h.st.es.arr (by have:=h.st.es.cap;have:=h.st.es.len;simp at this;omega);rw [hA] at hA'';cases hA'';exact hB.lt
theorem uShrink (h:Jf N w J g) (hlen:g.u.es.length≤20000):
  Calls Tryz.prog 224 #[.pointer (some ⟨J.l,1,none⟩)] w fun e w'=>e=.returned (.tuple #[])∧(∃J',J'.as J∧Jf N w' J' g)∧Upd (LU N w) w w':=by
 have c1:=h.c1;have c2:=h.c2;have y2:=h.fz 2;have hl:=h.ue.len;have hc:=h.ue.cap;have HH:=qq h;by_cases hn:J.ue.n=0
 ·have hes:g.u.es=[]:=List.eq_nil_of_length_eq_zero (by omega);have HP:=qq (h.putEs ⟨none,0,0⟩ g.u.es (by rw [hes];exact PArr.nil N _ 0) (fun _ _ _ _ _ h=>by cases h));rw [hn] at c2;clear h hl hc hn hes;go_enter Tryz.func224,Tryz.ntmps224;go_wp2;go_end0;exact ⟨rfl,⟨{J with ue:=⟨none,0,0⟩},rfl,HP.out.1⟩,HP.out.2⟩
 ·have hz:((J.ue.n:Int)==0)=false:=beq_eq_false_iff_ne.2 (by omega);have hn9:J.ue.n≤20000:=by omega
  by_cases hs:J.ue.n*2<J.ue.c
  ·obtain ⟨ps,hpl,hpe,hps⟩:=h.ue.ptrs;have hmk:=run_make_row' (P:=Tryz.prog) 128 122 (.pointer none) 8 Tryz.underlying128 inf122 rfl .i64 .i64 J.ue.n (by omega) (by omega);have HFIN:=qq fun (w':World) (hb:w'.heap[w.heap.size]? =some (.cells (ptrRow ps).toArray 122 (0,0))) (hu:Upd No w w')=>
    show PArr N w' 0 ⟨some ⟨w.heap.size,0,none⟩,ps.length,ps.length⟩ g.u.es from
     parr_of hb (Nat.le_of_lt h.lt) (by omega) (fun j hj=>(hpe j (by omega)).fr hu.fr0)
   obtain ⟨X,hX⟩:∃X,X=ptrRow ps:=⟨_,rfl⟩;have HX1:=qq (show ∀u∈X,u.oneCell'=true by rw [hX];exact ptrRow_one ps);have HXL:=qq (show X.length=J.ue.n by rw [hX,Jv,hpl]);have HPL:=qq hpl;rw [←hX] at hps HFIN;have HPS:=qq hps;have hlt:(J.ue.n:Int)*2<(J.ue.c:Int):=by omega
   have hst:=fun b o (hA:J.I.es.A=some ⟨b,o,none⟩)=>h.st_lt hA;have HST:=qq hst;have HN0:=qq (show X.length=Nat.min J.ue.n J.ue.n by rw [HXL.out];exact (Nat.min_self _).symm);have c2d:=fun (n:Nat) (o:Obj)=>cell_alloc (w:=w.drewN n) (o:=o) (show (w.drewN n).cell? ⟨J.l,2,none⟩=some J.ue.v from c2);have HBL:=qq fun (n:Nat) (o:Obj)=>(((Upd.refl No w).drewN n).alloc o).below;have HNW:=qq fun (n:Nat)=>(show ((w.drewN n).alloc (.cells (madeCells #[.pointer none] J.ue.n) 122)).heap[w.heap.size]? =some (.cells (madeCells #[.pointer none] J.ue.n).toList.toArray 122 (0,0)) from heap_alloc_new (w.drewN n) _);have hl0:J.l≠w.heap.size:=Nat.ne_of_lt h.blk.lt;clear h hl hc hn hX hpl hpe hps hst;go_enter Tryz.func224,Tryz.ntmps224;go_wp2_with fail
   go_quiet (fail)
   go_wp2_with (with_reducible refine wpList_copy_splice rfl (.tmp 30) (.tmp 34) 128 128 rfl 122 Tryz.underlying128 (by kernel_rfl) (some ⟨w.heap.size,0,none⟩) J.ue.A J.ue.n J.ue.n J.ue.n J.ue.c rfl rfl w.heap.size 0 (madeCells #[.pointer none] J.ue.n).toList 122 (HNW.out _) X HN0.out ?hp ?hf HX1.out w.heap.size w (HBL.out _ _) (Nat.le_refl _) ?hk)
   case hf=>simp [HXL.out,size_madeCells]
   case hp=>
    intro hp;rw [HXL.out] at hp;obtain ⟨ad',he,hc⟩:=HPS.out hp;exact ⟨ad',he,fun j v hv=>cell_alloc' (hc j v hv)⟩
   case hk=>
    intro w2 hb hbel;have hb':=hb.out;rw [splice_all _ _ (by simp [HXL.out,size_madeCells])] at hb';have hu2:=Upd.ofBelow hbel;have hP2:=HFIN.out w2 hb' hu2;rw [HPL.out] at hP2;have R2:=HH.out.no hu2
    have H2:=qq (R2.putEs _ _ hP2 (fun b o b' o' hA hA' _=>by
     cases hA'
     exact Nat.ne_of_lt (HST.out b o hA)))
    have z2:=R2.c2;have f2:=R2.fz 2;have HU2:=qq hu2;clear hb hb' hbel hu2 hP2 R2;go_wp2;go_end0;exact ⟨rfl,⟨{J with ue:=⟨some ⟨w.heap.size,0,none⟩,J.ue.n,J.ue.n⟩},rfl,H2.out.1⟩,LU.trans HU2.out.ofNo H2.out.2⟩
  ·have hlt:¬(J.ue.n:Int)*2<(J.ue.c:Int):=by omega
   clear h hl hc hn;go_enter Tryz.func224,Tryz.ntmps224;go_wp2_with fail
   go_quiet (fail)
   go_wp2;go_end0;exact ⟨rfl,⟨J,rfl,HH.out.drewN _⟩,(Upd.refl _ _).drewN _⟩
end
section
variable {N:Nat} {w w':World} {J:LId} {g:LgL}
def TlL.stable (u:TlL) (t i:Int):TlL:=if u.off≤i∧i<u.end_∧(ent u.es (i - u.off)).term=t then {u with es:=u.es.drop (i+1 - u.off).toNat,off:=i+1,till:=max u.till (i+1)} else u
def LgL.stable (g:LgL) (t i:Int):LgL:={g with u:=g.u.stable t i}
theorem uStable_no (h:Jf N w J g) (ho:g.Ok) {t i:Int} (hn:¬(g.u.off≤i∧i<g.u.end_∧(ent g.u.es (i - g.u.off)).term=t)):
  Calls Tryz.prog 212 #[.pointer (some ⟨J.l,1,none⟩),.agg #[.int .u64 t,.int .u64 i]] w fun e w'=>e=.returned (.tuple #[])∧(∃J',J'.as J∧Jf N w' J' (g.stable t i))∧Upd (LU N w) w w':=by
 have hG:g.stable t i=g:=by unfold LgL.stable TlL.stable;rw [if_neg hn]
 rw [hG];have c3:=cell_alloc (o:=Obj.cells #[.int .u64 t,.int .u64 i] 146) h.c3;have hR0:=qq (h.no ((Upd.refl No w).alloc (Obj.cells #[.int .u64 t,.int .u64 i] 146)));have hU0:=qq ((Upd.refl (LU N w) w).alloc (Obj.cells #[.int .u64 t,.int .u64 i] 146));have HM:=qq (mTerm hR0.out ho (i:=i));have hl:J.l≠w.heap.size:=Nat.ne_of_lt h.blk.lt;rcases ht:g.u.term i with _|T
 ·rw [ht] at HM;clear h ho hn hG ht;go_enter Tryz.func212,Tryz.ntmps212;go_wp2_with fail
  refine HM.out.mono ?_;rintro r w1 ⟨rfl,m,rfl⟩;go_wp2;refine bodyPost_ret (results_none rfl _ _ _) rfl ?_;exact ⟨rfl,⟨J,rfl,hR0.out.drewN _⟩,hU0.out.drewN _⟩
 ·rw [ht] at HM;by_cases h1:i<g.u.off
  ·clear h ho hn hG ht;go_enter Tryz.func212,Tryz.ntmps212;go_wp2_with fail
   refine HM.out.mono ?_;rintro r w1 ⟨rfl,m,rfl⟩;go_wp2_with fail
   go_quiet (fail)
   go_wp2;refine bodyPost_ret (results_none rfl _ _ _) rfl ?_;exact ⟨rfl,⟨J,rfl,(hR0.out.drewN _).drewN _⟩,(hU0.out.drewN _).drewN _⟩
  ·have hT:T≠t:=by
    rintro rfl;unfold TlL.term at ht;split at ht
    ·rename_i h2
     exact hn ⟨h2.1,h2.2,by simpa using ht⟩
    split at ht
    ·rename_i h3
     omega
    ·cases ht
   have hq:(T==t)=false:=beq_eq_false_iff_ne.2 hT;clear h ho hn hG ht hT;go_enter Tryz.func212,Tryz.ntmps212;go_wp2_with fail
   refine HM.out.mono ?_;rintro r w1 ⟨rfl,m,rfl⟩;go_wp2_with fail
   go_quiet (fail)
   go_wp2;refine bodyPost_ret (results_none rfl _ _ _) rfl ?_;exact ⟨rfl,⟨J,rfl,hR0.out.drewN _⟩,hU0.out.drewN _⟩
theorem uStable_yes (h:Jf N w J g) (ho:g.Ok) {t i:Int} (h1:g.u.off≤i) (h2:i<g.u.end_) (h3:(ent g.u.es (i - g.u.off)).term=t):
  Calls Tryz.prog 212 #[.pointer (some ⟨J.l,1,none⟩),.agg #[.int .u64 t,.int .u64 i]] w fun e w'=>e=.returned (.tuple #[])∧(∃J',J'.as J∧Jf N w' J' (g.stable t i))∧Upd (LU N w) w w':=by
 obtain ⟨k,hk⟩:=Int.eq_ofNat_of_zero_le (show 0≤i - g.u.off by omega);obtain rfl:i=g.u.off+(k:Int):=by omega
 have hG:g.stable t (g.u.off+(k:Int))= {g with u:={g.u with es:=g.u.es.drop (k+1),off:=g.u.off+(k:Int)+1,till:=max g.u.till (g.u.off+(k:Int)+1)}}:=by
  unfold LgL.stable TlL.stable;rw [if_pos ⟨h1,h2,h3⟩,show (g.u.off+(k:Int)+1 - g.u.off).toNat=k+1 by omega]
 rw [hG];have hR0:=qq fun (n:Nat)=>h.no (((Upd.refl No w).alloc (Obj.cells #[.int .u64 t,.int .u64 (g.u.off+(k:Int))] 146)).drewN n);have hU0:=qq fun (n:Nat)=>((Upd.refl (LU N w) w).alloc (Obj.cells #[.int .u64 t,.int .u64 (g.u.off+(k:Int))] 146)).drewN n;have HM:=qq (mTerm (hR0.out 0) ho (i:=g.u.off+(k:Int)));have ht:g.u.term (g.u.off+(k:Int))=some t:=by unfold TlL.term;rw [if_pos ⟨h1,h2⟩,h3]
 rw [ht] at HM;have hl:J.l≠w.heap.size:=Nat.ne_of_lt h.blk.lt;have hlu:=h.ue.len;have hcu:=h.ue.cap;have hlen:=ho.u.len;have o1:=ho.u.o1;have e2:=ho.u.e2;have t2:=ho.u.t2;have hkn:k+1≤J.ue.n:=by unfold TlL.end_ at h2;omega
 have hend:g.u.off+(k:Int)+1≤4611686018427387904:=by omega
 obtain ⟨b,o,p,hA,_⟩:=h.ue.at_ (k:=k) (by omega);have hPd:=h.ue;rw [show J.ue=⟨J.ue.A,J.ue.n,J.ue.c⟩ from rfl,hA] at hPd;have SEP:=qq fun b1 o1 (hA1:J.I.es.A=some ⟨b1,o1,none⟩)=>h.sep _ _ _ _ hA1 hA (by omega);have HD:=qq (hPd.drop_ (a:=k+1) hkn).weak0;have c2:=cell_alloc (o:=Obj.cells #[.int .u64 t,.int .u64 (g.u.off+(k:Int))] 146) h.c2;rw [hA] at c2;have c3:=cell_alloc (o:=Obj.cells #[.int .u64 t,.int .u64 (g.u.off+(k:Int))] 146) h.c3;have c5:=cell_alloc (o:=Obj.cells #[.int .u64 t,.int .u64 (g.u.off+(k:Int))] 146) h.c5;have f2:∀n,((w.alloc (Obj.cells #[.int .u64 t,.int .u64 (g.u.off+(k:Int))] 146)).drewN n).frozen? ⟨J.l,2,none⟩=false:=fun n=>(hR0.out n).fz 2;have f3:∀n,((w.alloc (Obj.cells #[.int .u64 t,.int .u64 (g.u.off+(k:Int))] 146)).drewN n).frozen? ⟨J.l,3,none⟩=false:=fun n=>(hR0.out n).fz 3;have f5:∀n,((w.alloc (Obj.cells #[.int .u64 t,.int .u64 (g.u.off+(k:Int))] 146)).drewN n).frozen? ⟨J.l,5,none⟩=false:=fun n=>(hR0.out n).fz 5;have j6:IntKind.i64.wrap ((k:Int)+1)=(k:Int)+1:=by simp [IntKind.wrap_i64];omega
 have j7:g.u.off+(k:Int)+1 - g.u.off=(k:Int)+1:=by omega
 have j8:((k:Int)+1).toNat=k+1:=by omega
 have j9:k+1≤J.ue.c:=by omega
 have ja:k+1≤20000:=by omega
 by_cases hcc:J.ue.c=k+1
 ·have hnn:J.ue.n=k+1:=by omega
  have HD0:=qq (show PArr N w 0 ⟨some ⟨b,o,none⟩,0,0⟩ (g.u.es.drop (k+1)) from ⟨by simp;omega,Nat.le_refl _,fun h=>absurd h (Nat.lt_irrefl 0)⟩);rw [hcc,hnn] at c2;clear h ho hG ht h1 h2 h3 hk hlu hA hPd hcc hnn j9 hcu hkn HD;have j7h:=qq j7;have j8h:=qq j8;clear j7 j8;go_enter Tryz.func212,Tryz.ntmps212;go_wp2_with fail
  refine HM.out.mono ?_;rintro r w1 ⟨rfl,m,rfl⟩;go_wp2_with fail
  go_quiet (fail)
  go_wp2_with fail
  go_quiet (fail)
  have j7:=j7h.out;have j8:=j8h.out;go_wp2_with fail
  generalize m+_+_=M;have R0:=hR0.out M;have H2:=qq (R0.putEs _ _ (HD0.out.upd (((Upd.refl No w).alloc (Obj.cells #[.int .u64 t,.int .u64 (g.u.off+(k:Int))] 146)).drewN M) (((Upd.refl No w).alloc (Obj.cells #[.int .u64 t,.int .u64 (g.u.off+(k:Int))] 146)).drewN M).fr0 (fun _ _ _ h=>h)) (fun b1 o1 b2 o2 hA1 hA2 hc=>by cases hA2;exact SEP.out _ _ hA1));have H3:=qq (H2.out.1.put 3 (.int .u64 (g.u.off+(k:Int)+1)) {g with u:={g.u with es:=g.u.es.drop (k+1),off:=g.u.off+(k:Int)+1}} rfl rfl rfl rfl rfl);have H5:=qq fun (x:Int)=>H3.out.1.put 5 (.int .u64 x) {g with u:={g.u with es:=g.u.es.drop (k+1),off:=g.u.off+(k:Int)+1,till:=x}} rfl rfl rfl rfl rfl;have HS:=qq fun (x:Int)=>uShrink (H5.out x).1.drew (by simp;omega);have HUU:=qq fun (x:Int)=>LU.trans (LU.trans (LU.trans (hU0.out M) H2.out.2) H3.out.2) (H5.out x).2;go_region
  rw [show (if g.u.till<g.u.off+(k:Int)+1 then g.u.off+(k:Int)+1 else g.u.till)=max g.u.till (g.u.off+(k:Int)+1) by omega];obtain ⟨X,hX⟩:∃X,X=max g.u.till (g.u.off+(k:Int)+1):=⟨_,rfl⟩;rw [←hX];have HX:=qq hX;clear hX;go_wp2_with fail
  refine (HS.out X).mono ?_;rintro r w9 ⟨rfl,⟨J9,e9,R9⟩,U9⟩;have HE:=qq e9;clear e9;go_wp2;go_end0;rw [←HX.out];exact ⟨rfl,⟨J9,HE.out,R9⟩,LU.trans (HUU.out X).drew U9⟩
 ·clear h ho hG ht h1 h2 h3 hk hlu hA hPd;have j7h:=qq j7;have j8h:=qq j8;clear j7 j8;go_enter Tryz.func212,Tryz.ntmps212;go_wp2_with fail
  refine HM.out.mono ?_;rintro r w1 ⟨rfl,m,rfl⟩;go_wp2_with fail
  go_quiet (fail)
  go_wp2_with fail
  go_quiet (fail)
  have j7:=j7h.out;have j8:=j8h.out;go_wp2_with fail
  generalize m+_+_=M;have R0:=hR0.out M;have H2:=qq (R0.putEs _ _ (HD.upd (((Upd.refl No w).alloc (Obj.cells #[.int .u64 t,.int .u64 (g.u.off+(k:Int))] 146)).drewN M) (((Upd.refl No w).alloc (Obj.cells #[.int .u64 t,.int .u64 (g.u.off+(k:Int))] 146)).drewN M).fr0 (fun _ _ _ h=>h)) (fun b1 o1 b2 o2 hA1 hA2 hc=>by cases hA2;exact SEP.out _ _ hA1));have H3:=qq (H2.out.1.put 3 (.int .u64 (g.u.off+(k:Int)+1)) {g with u:={g.u with es:=g.u.es.drop (k+1),off:=g.u.off+(k:Int)+1}} rfl rfl rfl rfl rfl);have H5:=qq fun (x:Int)=>H3.out.1.put 5 (.int .u64 x) {g with u:={g.u with es:=g.u.es.drop (k+1),off:=g.u.off+(k:Int)+1,till:=x}} rfl rfl rfl rfl rfl;have HS:=qq fun (x:Int)=>uShrink (H5.out x).1.drew (by simp;omega);have HUU:=qq fun (x:Int)=>LU.trans (LU.trans (LU.trans (hU0.out M) H2.out.2) H3.out.2) (H5.out x).2;go_region
  rw [show (if g.u.till<g.u.off+(k:Int)+1 then g.u.off+(k:Int)+1 else g.u.till)=max g.u.till (g.u.off+(k:Int)+1) by omega];obtain ⟨X,hX⟩:∃X,X=max g.u.till (g.u.off+(k:Int)+1):=⟨_,rfl⟩;rw [←hX];have HX:=qq hX;clear hX;go_wp2_with fail
  refine (HS.out X).mono ?_;rintro r w9 ⟨rfl,⟨J9,e9,R9⟩,U9⟩;have HE:=qq e9;clear e9;go_wp2;go_end0;rw [←HX.out];exact ⟨rfl,⟨J9,HE.out,R9⟩,LU.trans (HUU.out X).drew U9⟩
theorem uStable (h:Jf N w J g) (ho:g.Ok) {t i:Int} (hi0:0≤i) (hi:i<4611686018427387904):
  Calls Tryz.prog 212 #[.pointer (some ⟨J.l,1,none⟩),.agg #[.int .u64 t,.int .u64 i]] w fun e w'=>e=.returned (.tuple #[])∧(∃J',J'.as J∧Jf N w' J' (g.stable t i))∧Upd (LU N w) w w':=by
 by_cases hc:g.u.off≤i∧i<g.u.end_∧(ent g.u.es (i - g.u.off)).term=t
 ·exact uStable_yes h ho hc.1 hc.2.1 hc.2.2
 ·exact uStable_no h ho hc
theorem LU.cell {b o:Nat} {T:TypeId} {v:Value} (h:Upd (LU N w) w w') (hc:w.cell? ⟨b,o,none⟩=some v) (ht:Ty w b T) (hT:logT T=false):w'.cell? ⟨b,o,none⟩=some v:=
 h.cell hc fun ⟨_,T',h2,h3⟩=>by
  by_cases e:T=T'
  ·subst e;rw [hT] at h3;cases h3
  ·exact ht.ne_ h2 e rfl
theorem lgStable (h:Jf N w J g) (ho:g.Ok) {t i:Int} (hi0:0≤i) (hi:i<4611686018427387904):
  Calls Tryz.prog 169 #[.pointer (some ⟨J.l,0,none⟩),.agg #[.int .u64 t,.int .u64 i]] w fun e w'=>e=.returned (.tuple #[])∧(∃J',J'.as J∧Jf N w' J' (g.stable t i))∧Upd (LU N w) w w':=by
 have HU:=qq (uStable (h.no (((Upd.refl No w).alloc (Obj.cells #[.int .u64 t,.int .u64 i] 146)).drew)) ho (t:=t) hi0 hi);have U0:=qq ((((Upd.refl (LU N w) w).alloc (Obj.cells #[.int .u64 t,.int .u64 i] 146)).drew));have b0:(w.alloc (Obj.cells #[.int .u64 t,.int .u64 i] 146)).drew.cell? ⟨w.heap.size,0,none⟩=some (.int .u64 t):=by simp
 have b1:(w.alloc (Obj.cells #[.int .u64 t,.int .u64 i] 146)).drew.cell? ⟨w.heap.size,1,none⟩=some (.int .u64 i):=by simp
 have hty:Ty (w.alloc (Obj.cells #[.int .u64 t,.int .u64 i] 146)).drew w.heap.size 146:=(Blk.new w 146 _).drew.ty;clear h ho;go_enter Tryz.func169,Tryz.ntmps169;go_wp2_with fail
 go_region_held3 (fun w'=>w'.cell? ⟨w.heap.size,0,none⟩=some (.int .u64 t)∧w'.cell? ⟨w.heap.size,1,none⟩=some (.int .u64 i))
  (first
   |(with_reducible exact ⟨b0,b1⟩)
   |(with_reducible exact ⟨LU.cell u1 b0 hty rfl,LU.cell u1 b1 hty rfl⟩))
  (first
   |(go_at_call 212
     first
      |((with_reducible refine HU.out.mono ?_);rintro r w1 ⟨rfl,r1,u1⟩)))
 go_wp2;go_end0;exact ⟨rfl,r1,LU.trans U0.out u1⟩
end
structure SCall where
 kind:Int
 a:Int
 b:Int
 c:Int
 es:List Ent
 snap:Snap
structure SAns where
 err:Int
 n:Int
 es:List Ent
 snap:Snap
def SAns.none:SAns:=⟨0,0,[],Snap.zero⟩
structure LCall where
 kind:Int
 a:Int
 b:Int
 c:Int
 flag:Bool
 atT:Int
 atI:Int
 pT:Int
 pI:Int
 es:List Ent
 snap:Snap
 st:SCall
structure LAns where
 err:Int
 n:Int
 m:Int
 flag:Bool
 atT:Int
 atI:Int
 es:List Ent
 snap:Snap
def LAns.none:LAns:=⟨0,0,0,false,0,0,[],Snap.zero⟩
def farI:Int:=4611686018427387904
def rowAt (l:List Ent) (j:Nat):Prop:=(l.getD j default).index≠0∧(l.getD j default).index<farI∧(l.getD j default).term<farI∧(0<j→(l.getD j default).index=(l.getD (j - 1) default).index+1)
instance (l:List Ent) (j:Nat):Decidable (rowAt l j):=by unfold rowAt;infer_instance
def rowB (l:List Ent):Bool:=decide (∀j,j<l.length→rowAt l j)
def idx0 (l:List Ent):Int:=(l.getD 0 default).index
def StL.append (s:StL) (l:List Ent):Option StL:=
 if rowB l=true∧¬(0<l.length∧s.last+1<idx0 l) then
  (if 0<(l.dropWhile fun e=>decide (e.index≤s.atI)).length then
   some {s with L:=s.L.take (idx0 (l.dropWhile fun e=>decide (e.index≤s.atI)) - s.first).toNat++l.dropWhile fun e=>decide (e.index≤s.atI)} else some s)
 else none
def StL.compact (s:StL) (a:Int):Option (SAns×StL):=
 if a≤s.atI then some ({SAns.none with err:=1},s) else if s.last<a then none else
  some (SAns.none,{s with L:=s.L.drop (a - s.atI).toNat,atT:=(s.term a).1,atI:=a})
def StL.create (s:StL) (a:Int) (p:Snap):Option (SAns×StL):=
 if a≤s.snap.index then some ({SAns.none with err:=2},s) else if a<s.atI∨s.last<a then none else
  some ({SAns.none with snap:=⟨p.data,a,(s.term a).1,p.cf⟩},{s with snap:=⟨p.data,a,(s.term a).1,p.cf⟩})
def StL.apply (s:StL) (p:Snap):Option (SAns×StL):=
 if p.index=0∨farI≤p.index∨farI≤p.term then none else if p.index≤s.snap.index then some ({SAns.none with err:=2},s) else
  some (SAns.none,{s with snap:=p,atT:=p.term,atI:=p.index,L:=[]})
def StL.entries (s:StL) (a b:Int):Option (SAns×StL):=
 if a≤s.atI then (if a≤b then some ({SAns.none with err:=1},s) else none) else if s.last+1<b∨b≤a then none else
  some ({SAns.none with es:=(s.L.take (b - s.first).toNat).drop (a - s.first).toNat},s)
def SDo (s:StL) (c:SCall):Option (SAns×StL):=
 if c.kind=1 then (s.append c.es).map fun s'=>(SAns.none,s')
 else if c.kind=2 then s.compact c.a
 else if c.kind=3 then s.create c.a c.snap
 else if c.kind=4 then s.apply c.snap
 else if c.kind=5 then s.entries c.a c.b
 else if c.kind=6 then (if c.a<farI then some ({SAns.none with n:=(s.term c.a).1,err:=(s.term c.a).2},s) else none)
 else if c.kind=7 then some ({SAns.none with n:=s.first},s)
 else if c.kind=8 then some ({SAns.none with n:=s.last},s)
 else if c.kind=9 then some ({SAns.none with snap:=s.snap},s)
 else some (SAns.none,s)
def TlL.append (u:TlL) (l:List Ent):Option TlL:=
 if l.length=0∨rowB l=false then none else if u.end_<idx0 l then none else
  if idx0 l≤u.off then some {u with es:=l,off:=idx0 l,till:=idx0 l}
  else some {u with es:=u.es.take (idx0 l - u.off).toNat++l,till:=min u.till (idx0 l)}
def LgL.append (g:LgL) (l:List Ent):Option LgL:=
 if l.length=0 then some g else if rowB l=false∨idx0 l≤g.com∨g.last+1<idx0 l then none else (g.u.append l).map fun u=>{g with u:=u}
def LgL.commit? (g:LgL) (n:Int):Option LgL:=if g.com<n∧g.last<n then none else some (g.commit n)
def LgL.validB (a pT pI:Int) (l:List Ent):Bool:=
 decide ((∀j,j<l.length→(l.getD j default).index=pI+1+j∧(if j=0 then pT else (l.getD (j - 1) default).term)≤(l.getD j default).term)∧(if l.length=0 then pT else (l.getD (l.length - 1) default).term)≤a)
def LgL.maybe (g:LgL) (c:LCall):Option (LAns×LgL):=
 if rowB c.es=false∨LgL.validB c.a c.pT c.pI c.es=false∨farI≤c.pI then none
 else if g.matches c.pT c.pI=false then some (LAns.none,g)
 else if 0<g.conflict c.es then
  (if g.conflict c.es≤g.com then none else (g.append (c.es.drop (g.conflict c.es - c.pI - 1).toNat)).bind fun g'=>(g'.commit? (min c.b (c.pI+c.es.length))).map fun g''=>({LAns.none with n:=c.pI+c.es.length,flag:=true},g''))
 else (g.commit? (min c.b (c.pI+c.es.length))).map fun g''=>({LAns.none with n:=c.pI+c.es.length,flag:=true},g'')
def LgL.rangeB (g:LgL) (lo hi:Int):Option (List Ent):=
 if lo<g.first∨g.last+1<hi∨hi<lo then none else some (g.range lo hi)
def LgL.cut (g:LgL) (lo hi:Int):Option (LAns×LgL):=
 if hi<lo then none else if lo<g.first then some ({LAns.none with err:=1},g) else (g.rangeB lo hi).map fun e=>({LAns.none with es:=e},g)
def LgL.nextS (g:LgL) (f:Bool):Option (LAns×LgL):=
 if g.paused=true∨g.u.has=true then some (LAns.none,g) else if g.most f≤g.apg then some (LAns.none,g) else
  if g.size≤g.usg then none else (g.rangeB (g.apg+1) (g.most f+1)).map fun e=>({LAns.none with es:=e},g)
def LgL.upToDate (g:LgL) (t i:Int):Bool:=decide (g.lastT<t)||(decide (t=g.lastT) && decide (g.last≤i))
def LgL.ask (g:LgL) (c:LCall):Option (LAns×LgL):=
 if c.kind=3 then (if rowB c.es=true then some ({LAns.none with n:=g.conflict c.es},g) else none)
 else if c.kind=4 then some (if g.last<c.a then {LAns.none with n:=c.a} else {LAns.none with n:=(g.byTerm c.b c.a.toNat).1,m:=(g.byTerm c.b c.a.toNat).2},g)
 else if c.kind=5 then some ({LAns.none with flag:=g.upToDate c.atT c.atI},g)
 else if c.kind=6 then some ({LAns.none with flag:=g.matches c.atT c.atI},g)
 else if c.kind=7 then some ({LAns.none with n:=(g.term c.a).1,err:=(g.term c.a).2},g)
 else if c.kind=8 then (if c.a≤g.last then g.cut c.a (g.last+1) else some (LAns.none,g))
 else if c.kind=9 then g.cut c.a c.b
 else if c.kind=10 then some ({LAns.none with n:=g.first},g)
 else if c.kind=11 then some ({LAns.none with n:=g.last},g)
 else if c.kind=12 then some ({LAns.none with atT:=g.lastT,atI:=g.last},g)
 else if c.kind=15 then g.nextS c.flag
 else if c.kind=16 then some ({LAns.none with flag:=g.hasNext c.flag},g)
 else if c.kind=17 then some ({LAns.none with n:=g.most c.flag},g)
 else if c.kind=20 then some ({LAns.none with es:=g.u.next},g)
 else if c.kind=21 then some ({LAns.none with flag:=decide (0<g.u.next.length)},g)
 else if c.kind=22 then some ({LAns.none with flag:=decide (0<g.u.es.length)},g)
 else if c.kind=27 then some (if g.u.has=true∧g.u.going=false then {LAns.none with flag:=true,snap:=g.u.snap} else LAns.none,g)
 else if c.kind=28 then some ({LAns.none with flag:=g.u.has && !g.u.going},g)
 else if c.kind=29 then some ({LAns.none with flag:=g.u.has},g)
 else if c.kind=30 then some ({LAns.none with snap:=if g.u.has=true then g.u.snap else g.s.snap},g)
 else if c.kind=31 then (g.rangeB g.first (g.last+1)).map fun e=>({LAns.none with es:=e},g)
 else none
def LDo (g:LgL) (c:LCall):Option (LAns×LgL):=
 if farI≤c.a∨farI≤c.b∨farI≤c.atI then none
 else if c.kind=1 then (g.append c.es).map fun g'=>({LAns.none with n:=g'.last},g')
 else if c.kind=2 then g.maybe c
 else if c.kind=13 then (g.commit? c.a).map fun g'=>(LAns.none,g')
 else if c.kind=14 then (if g.mc c.atT c.atI=true then some ({LAns.none with flag:=true},g.commit c.atI) else some (LAns.none,g))
 else if c.kind=18 then (if g.com<c.a∨c.a<g.apg∨farI≤g.usg then none else some (LAns.none,g.applying c.a c.b c.flag))
 else if c.kind=19 then (if g.com<c.a∨c.a<g.apd then none else some (LAns.none,g.appl c.a c.b))
 else if c.kind=23 then some (LAns.none,g.accept)
 else if c.kind=24 then some (LAns.none,g.stable c.atT c.atI)
 else if c.kind=25 then some (LAns.none,g.Jy c.a)
 else if c.kind=26 then (if c.snap.index≤0∨c.snap.index<g.com∨farI≤c.snap.index∨farI≤c.snap.term then none else some (LAns.none,g.restore c.snap))
 else if c.kind=34 then (SDo g.s c.st).map fun x=>({LAns.none with err:=x.1.err,n:=x.1.n,es:=x.1.es,snap:=x.1.snap},{g with s:=x.2})
 else g.ask c
def TlL.wholeB (u:TlL):Bool:=
 rowB u.es && decide (u.off≠0) && decide (u.off<farI) && decide (u.es.length=0∨idx0 u.es=u.off) && decide (u.off≤u.till) && decide (u.till≤u.end_) &&
  (if u.has=true then decide (0<u.snap.index∧u.snap.index+1=u.off∧u.snap.term<farI) else !u.going)
def LgL.wholeB (g:LgL):Bool:=
 g.u.wholeB && (g.u.has||decide (g.u.off≤g.s.last+1∧g.s.first≤g.u.off∧(g.u.es.length=0→g.u.off=g.s.last+1))) &&
  decide (g.com≤g.last∧g.first≤g.com+1∧g.apd≤g.apg∧g.apg≤g.com)
section
variable {N:Nat} {w w':World} {J:LId} {g:LgL}
theorem Blk.setCells {b:Nat} {t:TypeId}:∀(vs:List Value) (o:Nat) (w:World) (cs:Array Value),Blk w b t cs→∃cs',Blk (w.setCells b o vs) b t cs'∧cs'.size=cs.size∧
  (∀i,i<o∨o+vs.length≤i→cs'[i]? =cs[i]?)∧(o+vs.length≤cs.size→∀j,j<vs.length→cs'[o+j]? =vs[j]?)
 |[],o,w,cs,h=>⟨cs,h,rfl,fun _ _=>rfl,fun _ j hj=>absurd hj (Nat.not_lt_zero _)⟩
 |v::vs,o,w,cs,h=>by
  obtain ⟨cs',h1,h2,h3,h4⟩:=Blk.setCells vs (o+1) _ _ (h.set_ o v);refine ⟨cs',h1,by simpa using h2,fun i hi=>?_,fun hle j hj=>?_⟩
  ·rw [h3 i (by simp at hi;omega),Array.getElem?_setIfInBounds_ne (by simp at hi;omega)]
  ·rcases j with _|j
   ·rw [h3 (o+0) (by omega)];simp at hle;rw [Nat.add_zero,Array.getElem?_setIfInBounds_self_of_lt (by omega)];rfl
   ·have:=h4 (by simp at hle ⊢;omega) j (by simpa using hj)
    rw [show o+(j+1)=o+1+j by omega,this];simp
theorem upd_setCells {b:Nat}:∀(vs:List Value) (o:Nat) (w:World),Upd (fun k=>k=b) w (w.setCells b o vs)
 |[],_,_=>Upd.refl _ _
 |v::vs,o,w=>((Upd.refl (fun k=>k=b) w).setCell (a:=⟨b,o,none⟩) (.inl rfl) v).Ke (upd_setCells vs (o+1) _)
def SlV.blk (s:SlV) (k:Nat):Prop:=s.A.map (·.block)=some k∧0<s.c
theorem run_append_parr {d:Nat} {s t:SlV} {es fs:List Ent} (h:PArr N w d s es) (k:PArr N w 0 t fs) (hb:s.n+t.n≤1000000) (hN:N≤w.heap.size) (ty:TypeId):
  ∃s' w',(Builtin.append_ #[128,128] ty #[.slice s.A s.n s.c,.slice t.A t.n t.c]).run Tryz.prog w=.ok (.slice s'.A s'.n s'.c) w'∧PArr N w' d s' (es++fs)∧Upd s.blk w w'∧
   (∀b o,0<s'.c→s'.A=some ⟨b,o,none⟩→(s.A=some ⟨b,o,none⟩∧0<s.c)∨w.heap.size≤b)∧s'.n=s.n+t.n:=by
 obtain ⟨i,hi,hz,hsize,hby⟩:=info_parts inf122;have ht:=Tryz.underlying128;have h1:=h.len;have k1:=k.len;have hcap:=h.cap;obtain ⟨ps,hpl,hpe,hps⟩:=h.ptrs;obtain ⟨qs,hql,hqe,hqs⟩:=k.ptrs;have hsrc:∀w1:World,w1=w→Src Tryz.prog i.size 128 (.slice t.A t.n t.c) t.n (ptrRow qs) w:=by
  intro w1 _;rcases Nat.eq_zero_or_pos t.n with h0|h0
  ·have hq:qs=[]:=List.eq_nil_of_length_eq_zero (by omega);subst hq;rw [h0];rcases t.A with _|ad
   ·exact Src.ofNil w ht t.c
   ·exact Src.ofSlice w ht ad 0 t.c [] (by simp) (by intro j u h;simp at h) (by intro u h;cases h)
  ·obtain ⟨ad,hA,hc⟩:=hqs h0;rw [hA];exact Src.ofSlice w ht ad t.n t.c _ (by rw [Jv,hsize,hql];omega) hc (ptrRow_one qs)
 have hs:=hsrc w rfl;by_cases hroom:s.n+t.n≤s.c
 ·rcases Nat.eq_zero_or_pos t.n with h0|h0
  ·have hf:fs=[]:=List.eq_nil_of_length_eq_zero (by omega);have hq:qs=[]:=List.eq_nil_of_length_eq_zero (by omega);subst hf;subst hq;have hs':Src Tryz.prog i.size 128 (.slice t.A t.n t.c) 0 [] w:=by have:=hs;rw [h0] at this ⊢;exact this
   refine ⟨s,w,run_append_nothing w 128 128 ty 122 i ht hi s.A s.n s.c hcap _ hs',by simpa using h,Upd.refl _ _,fun b o hc hA=>.inl ⟨hA,hc⟩,by omega⟩
  ·obtain ⟨b,o,cs,hA,hB,ho,hNb,hj⟩:=h.arr (by omega);have hfr:=hB.frozen;have hin:∀x,x<cs.size→(w.cell? ⟨b,x,none⟩).isSome=true:=by
    intro x hx;rw [hB.cell,Array.getElem?_eq_getElem hx];rfl
   have hrun:=run_append_room_src (P:=Tryz.prog) w 128 128 ty 122 i ht hi b o s.n s.c _ t.n (ptrRow qs) hs hroom
    (by intro j hj;rw [Jv] at hj;exact hin _ (by rw [hsize];omega)) (by intro j hj;exact hfr _)
   have hl:=Jv qs;rw [hsize,Nat.mul_one] at hrun;obtain ⟨cs',g1,g2,g3,g4⟩:=hB.setCells (ptrRow qs) (o+s.n) w cs;have hu:=upd_setCells (b:=b) (ptrRow qs) (o+s.n) w;have hf:Fr N w (w.setCells b (o+s.n) (ptrRow qs)):=hu.fr (by rintro k rfl;exact hB.mutb hNb rfl);refine ⟨⟨some ⟨b,o,none⟩,s.n+t.n,s.c⟩,_,by rw [hA];exact hrun,⟨by simp;omega,hroom,fun _=>⟨b,o,cs',rfl,g1,by rw [g2];exact ho,hNb,fun j hjn=>?_⟩⟩,hu.mono (by rintro k rfl;exact ⟨by rw [hA];rfl,by omega⟩),fun b' o' hc hA'=>.inl ⟨by rw [hA];exact hA',hc⟩,rfl⟩;simp only at hjn;rcases Nat.lt_or_ge j s.n with hlt|hge
   ·obtain ⟨p,hp,he⟩:=hj j hlt;exact ⟨p,by rw [g3 _ (.inl (by omega))];exact hp,by rw [getD_app_lt (by omega)];exact he.fr hf⟩
   ·refine ⟨qs.getD (j - s.n) 0,?_,?_⟩
    ·rw [show o+j=o+s.n+(j - s.n) by omega,g4 (by rw [hl];omega) (j - s.n) (by rw [hl];omega),ptrRow_at qs _ (by omega)]
    ·rw [getD_app_ge (by omega),h1];exact ((hqe (j - s.n) (by omega)).weak fun _=>Nat.zero_le _).fr hf
 ·have hold:(Builtin.firstCells i.size s.n (.slice s.A s.n s.c)).run Tryz.prog w.drew=.ok (ptrRow ps).toArray w.drew:=by
   rcases Nat.eq_zero_or_pos s.n with h0|h0
   ·have hq:ps=[]:=List.eq_nil_of_length_eq_zero (by omega);subst hq;rw [h0];rcases s.A with _|ad
    ·exact run_firstCells_none w.drew i.size 0 0 s.c
    ·exact run_firstCells_some w.drew i.size 0 ad 0 s.c [] (by simp) (by intro j u h;simp at h)
   ·obtain ⟨ad,hA,hc⟩:=hps h0;rw [hA];exact run_firstCells_some w.drew i.size s.n ad s.n s.c _ (by rw [Jv,hsize,hpl];omega) hc
  have hge:=grownCap_ge w (s.n+t.n) s.c 122;have hrun:=run_append_grow_src (P:=Tryz.prog) w 128 128 ty 122 i _ ht hi hz s.A s.n s.c (ptrRow ps) hold _ t.n (ptrRow qs) hs (by omega) (by omega) (growslice_fits (by omega) (by rw [hby];omega));have hu:Upd No w (w.drew.alloc (.cells ((ptrRow ps++ptrRow qs).toArray++Builtin.zeroCells (Value.cells (.pointer none)) (grownCap w (s.n+t.n) s.c 122 - (s.n+t.n))) 122)):=((Upd.refl No w).drew).alloc _;refine ⟨⟨some ⟨w.heap.size,0,none⟩,s.n+t.n,grownCap w (s.n+t.n) s.c 122⟩,_,hrun,⟨by simp;omega,hge,fun _=>⟨w.heap.size,0,_,rfl,Blk.new w.drew 122 _,?_,hN,fun j hjn=>?_⟩⟩,hu.ofNo,fun b o _ hA=>.inr (by cases hA;exact Nat.le_refl _),rfl⟩
  ·rw [Array.size_append,size_zeroCells,show (ptrRow ps++ptrRow qs).toArray.size=ps.length+qs.length by simp [Jv]];have:(Value.cells (.pointer none)).size=1:=rfl;rw [this];simp only;omega
  ·simp only at hjn;rw [Nat.zero_add,Array.getElem?_append_left (by simp [Jv];omega)];rcases Nat.lt_or_ge j s.n with hlt|hge
   ·refine ⟨ps.getD j 0,?_,?_⟩
    ·rw [List.getElem?_toArray,List.getElem?_append_left (by rw [Jv];omega)];exact ptrRow_at ps j (by omega)
    ·rw [getD_app_lt (by omega)];exact (hpe j hlt).fr hu.fr0
   ·refine ⟨qs.getD (j - s.n) 0,?_,?_⟩
    ·rw [List.getElem?_toArray,List.getElem?_append_right (by rw [Jv];omega),Jv,hpl];exact ptrRow_at qs (j - s.n) (by omega)
    ·rw [getD_app_ge (by omega),h1];exact ((hqe (j - s.n) (by omega)).weak fun _=>Nat.zero_le _).fr hu.fr0
theorem app_parr {ops:Array Oper} {rest:List Oper} {o:Oper} {a:Act} {Q:Exit→Act→World→Prop} {w:World} (hgd:o.guard=none) (x y:Operand)
  (ho:o.op=.call {callee:=.builtin .append,args:=#[x,y],argTypes:=#[128,128]})
  {N d:Nat} {s t:SlV} {es fs:List Ent} (hs:a.eval x=.slice s.A s.n s.c) (hx:a.eval y=.slice t.A t.n t.c) (h:PArr N w d s es) (k:PArr N w 0 t fs) (hb:s.n+t.n≤1000000) (hN:N≤w.heap.size)
  (hk:∀s' w',PArr N w' d s' (es++fs)→Upd s.blk w w'→(∀b o,0<s'.c→s'.A=some ⟨b,o,none⟩→(s.A=some ⟨b,o,none⟩∧0<s.c)∨w.heap.size≤b)→s'.n=s.n+t.n→wpList Tryz.prog ops Q rest (a.put o.dst (.slice s'.A s'.n s'.c)) w'):
  wpList Tryz.prog ops Q (o::rest) a w:=by
 refine wpList_plain hgd fun K hK=>?_;obtain ⟨s',w',hr,h2,h3,h4,h5⟩:=run_append_parr h k hb hN o.type;unfold Oper.wp execOp;simp only [ho,resolve,invoke,builtin,Sem.run_bind,Sem.run_pure,Result.andThen_ok,List.map_toArray,List.map_cons,List.map_nil,hs,hx,hr];exact hK _ _ (hk s' w' h2 h3 h4 h5)
end
end Go.Proofs.YtmagnkjodjmojaaGreat
