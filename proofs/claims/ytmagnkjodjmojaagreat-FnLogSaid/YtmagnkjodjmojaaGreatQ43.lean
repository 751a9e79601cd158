/- A part of the proof of FnLog: laws and walks, with their conditions written at each. -/
import Derived.Test.YtmagnkjodjmojaaGreatQ42
set_option maxRecDepth 20000
set_option maxHeartbeats 4000000
set_option linter.all false
namespace Go.Proofs.YtmagnkjodjmojaaGreat
open Go.RowKit
section
variable {P:Program} {ops:Array Oper} {Q:Exit→Act→World→Prop} {md:Region.Mode} {S:World→Prop} {late:Nat→Bool}
def wpAnyL (P:Program) (md:Region.Mode) (ops:Array Oper) (Q:Exit→Act→World→Prop) (S:World→Prop) (late:Nat→Bool):Nat→Array Bool→Act→World→Prop
 |0,listed,a,w=>Region.ready md ops listed=[]∧Q .normal a w
 |fuel+1,listed,a,w=>
  (Region.ready md ops listed=[]→Q .normal a w)∧
  ∀i∈Region.ready md ops listed,wpOp P ops Q i (fun a' w'=>(late i=false→S w→S w')∧wpAnyL P md ops Q S late fuel (listed.setIfInBounds i true) a' w') a w
theorem wpAny_of_late:∀(fuel:Nat) (listed:Array Bool) (a:Act) (w:World),wpAnyL P md ops Q S late fuel listed a w→wpAny P md ops Q fuel listed a w
 |0,_,_,_,h=>h
 |fuel+1,_,_,_,h=>⟨h.1,fun i hi=>wpOp_mono (fun a' w' h'=>wpAny_of_late fuel _ a' w' h'.2) (h.2 i hi)⟩
def waitsL (md:Region.Mode) (ops:Array Oper) (late:Nat→Bool) (i:Nat):Bool:=
 (List.range ops.size).all fun j=>!late j||(match ops[j]? with|some o=>o.after.any fun e=>Region.binds md e && e.on==i|none=>true)
theorem waitsL_spec {i:Nat} (h:waitsL md ops late i=true) {j:Nat} {o:Oper} (ho:ops[j]? =some o) (hno:∀e∈o.after,Region.binds md e=true→e.on≠i):late j=false:=by
 have hj:j<ops.size:=(Array.getElem?_eq_some_iff.1 ho).1;have h1:=List.all_eq_true.1 h j (List.mem_range.2 hj);rw [ho] at h1;rcases hl:late j with _|_
 ·rfl
 ·rw [hl] at h1;simp only [Bool.not_true,Bool.false_or,Array.any_eq_true] at h1;obtain ⟨n,hn,he⟩:=h1;simp only [Bool.and_eq_true,beq_iff_eq] at he;exact absurd he.2 (hno _ (Array.getElem_mem hn) he.1)
theorem wpAnyL_first {i:Nat} {oi:Oper} {v:Value} (hi:ops[i]? =some oi) (hsel:∀(j:Nat) (o:Oper) cs b,ops[j]? =some o→o.op≠ .select cs b) (hw:waitsL md ops late i=true)
  (hQ:∀c a w,Q (.panic c) (a.put oi.dst v) w→Q (.panic c) a w):∀(fuel:Nat) (listed:Array Bool) (a:Act) (w:World),
   (∀j oj,ops[j]? =some oj→j≠i→listed.getD j true=false→(∀e∈oj.after,Region.binds md e=true→e.on≠i)→oi.apart ops oj=true)→
   i∈Region.ready md ops listed→YieldsIf P ops S oi v a→S w→
   wpAnyL P md ops Q S late fuel (listed.setIfInBounds i true) (a.put oi.dst v) w→wpAnyL P md ops Q S late (fuel+1) listed a w:=by
 intro fuel;induction fuel with
 |zero=>
  intro listed a w _ hr hy hS H;refine ⟨fun h=>(by rw [h] at hr;cases hr),fun j hj=>?_⟩;rcases Nat.decEq j i with hji|rfl
  ·have:=ready_mono hj hji
   rw [H.1] at this;cases this
  ·exact hy.wpOp hi hS ⟨fun _ h=>h,H⟩
 |succ fuel ih=>
  intro listed a w hfree hr hy hS H;refine ⟨fun h=>(by rw [h] at hr;cases hr),fun j hj=>?_⟩;rcases Nat.decEq j i with hji|rfl
  ·obtain ⟨hjun,oj,hoj,hall⟩:=mem_ready.1 hj;have hnot:∀e∈oj.after,Region.binds md e=true→e.on≠i:=fun e he hb heq=>by
    have h1:=hall e he hb;have h0:=(mem_ready.1 hr).1;rw [heq] at h1;rcases Nat.lt_or_ge i listed.size with h'|h'
    ·simp [h'] at h0 h1;rw [h0] at h1;cases h1
    ·simp [Array.getElem?_eq_none h'] at h1
   have hnl:=waitsL_spec hw hoj hnot;have h2:=wpOp_putIf hoj (hfree j oj hoj hji hjun hnot) (fun cs b=>hsel i oi cs b hi) (fun cs b=>hsel j oj cs b hoj) hQ hy (H.2 j (ready_mono hj hji));refine wpOp_mono (fun a' w' h3=>⟨h3.2.1,ih (listed.setIfInBounds j true) a' w' (fun k ok hk hki hun hno=>hfree k ok hk hki ?_ hno) (ready_mono hr (Ne.symm hji)) h3.1 (h3.2.1 hnl hS) ?_⟩) h2
   ·rcases Nat.decEq j k with hjk|rfl
    ·rw [getD_set_ne true hjk] at hun;exact hun
    ·exact hjun
   ·rw [Array.setIfInBounds_comm _ _ hji];exact h3.2.2
  ·exact hy.wpOp hi hS ⟨fun _ h=>h,H⟩
theorem wpAnyL_first' {i:Nat} {oi:Oper} {v:Value} (hi:ops[i]? =some oi) (hsel:∀(j:Nat) (o:Oper) cs b,ops[j]? =some o→o.op≠ .select cs b)
  (hQ:∀c a w,Q (.panic c) (a.put oi.dst v) w→Q (.panic c) a w):∀(fuel:Nat) (listed:Array Bool) (a:Act) (w:World),
   (∀j oj,ops[j]? =some oj→j≠i→listed.getD j true=false→(∀e∈oj.after,Region.binds md e=true→e.on≠i)→oi.apart ops oj=true)→
   i∈Region.ready md ops listed→YieldsIf P ops (fun _=>True) oi v a→
   wpAnyL P md ops Q S late fuel (listed.setIfInBounds i true) (a.put oi.dst v) w→wpAnyL P md ops Q S late (fuel+1) listed a w:=by
 intro fuel;induction fuel with
 |zero=>
  intro listed a w _ hr hy H;refine ⟨fun h=>(by rw [h] at hr;cases hr),fun j hj=>?_⟩;rcases Nat.decEq j i with hji|rfl
  ·have:=ready_mono hj hji
   rw [H.1] at this;cases this
  ·exact hy.wpOp hi trivial ⟨fun _ h=>h,H⟩
 |succ fuel ih=>
  intro listed a w hfree hr hy H;refine ⟨fun h=>(by rw [h] at hr;cases hr),fun j hj=>?_⟩;rcases Nat.decEq j i with hji|rfl
  ·obtain ⟨hjun,oj,hoj,hall⟩:=mem_ready.1 hj;have hnot:∀e∈oj.after,Region.binds md e=true→e.on≠i:=fun e he hb heq=>by
    have h1:=hall e he hb;have h0:=(mem_ready.1 hr).1;rw [heq] at h1;rcases Nat.lt_or_ge i listed.size with h'|h'
    ·simp [h'] at h0 h1;rw [h0] at h1;cases h1
    ·simp [Array.getElem?_eq_none h'] at h1
   have h2:=wpOp_putIf hoj (hfree j oj hoj hji hjun hnot) (fun cs b=>hsel i oi cs b hi) (fun cs b=>hsel j oj cs b hoj) hQ hy (H.2 j (ready_mono hj hji));refine wpOp_mono (fun a' w' h3=>⟨h3.2.1,ih (listed.setIfInBounds j true) a' w' (fun k ok hk hki hun hno=>hfree k ok hk hki ?_ hno) (ready_mono hr (Ne.symm hji)) h3.1 ?_⟩) h2
   ·rcases Nat.decEq j k with hjk|rfl
    ·rw [getD_set_ne true hjk] at hun;exact hun
    ·exact hjun
   ·rw [Array.setIfInBounds_comm _ _ hji];exact h3.2.2
  ·exact hy.wpOp hi trivial ⟨fun _ h=>h,H⟩
theorem wpAnyL_take {i:Nat} {oi:Oper} {v:Value} {fuel:Nat} {listed:Array Bool} {a:Act} {w:World} (hi:ops[i]? =some oi) (hw:waitsL md ops late i=true)
  (hs:Region.noSelect ops=true) (hf:Region.free md ops listed i=true) (hr:(Region.ready md ops listed).contains i=true)
  (hQ:∀c a w,Q (.panic c) (a.put oi.dst v) w→Q (.panic c) a w) (hy:YieldsIf P ops S oi v a) (hS:S w)
  (h:wpAnyL P md ops Q S late fuel (listed.setIfInBounds i true) (a.put oi.dst v) w):wpAnyL P md ops Q S late (fuel+1) listed a w:=
 wpAnyL_first hi (Region.noSelect_spec hs) hw hQ fuel listed a w (Region.free_spec hi hf) (by simpa using hr) hy hS h
theorem Jt {i:Nat} {oi:Oper} {v:Value} {fuel:Nat} {listed:Array Bool} {a:Act} {w:World} (hi:ops[i]? =some oi)
  (hs:Region.noSelect ops=true) (hf:Region.free md ops listed i=true) (hr:(Region.ready md ops listed).contains i=true)
  (hQ:∀c a w,Q (.panic c) (a.put oi.dst v) w→Q (.panic c) a w) (hy:YieldsIf P ops (fun _=>True) oi v a)
  (h:wpAnyL P md ops Q S late fuel (listed.setIfInBounds i true) (a.put oi.dst v) w):wpAnyL P md ops Q S late (fuel+1) listed a w:=
 wpAnyL_first' hi (Region.noSelect_spec hs) hQ fuel listed a w (Region.free_spec hi hf) (by simpa using hr) hy h
theorem wpAnyL_one {i:Nat} {o:Oper} {fuel:Nat} {listed:Array Bool} {a:Act} {w:World} (hr:Region.ready md ops listed=[i]) (ho:ops[i]? =some o)
  (h:∀K':Act→World→Prop,Shut (∀a w',(late i=false→S w→S w')→wpAnyL P md ops Q S late fuel (listed.setIfInBounds i true) a w'→K' a w')→if Region.wanted o (yielded ops a.tmps)=true then Oper.wp P o a w K' Q else K' (a.put o.dst undef) w):
  wpAnyL P md ops Q S late (fuel+1) listed a w:=
 ⟨fun h0=>(by rw [hr] at h0;cases h0),fun j hj=>by
  rw [hr] at hj;obtain rfl:j=i:=by simpa using hj
  exact wpOp_step ho (fun K' hK=>h K' (fun a w hS hW=>hK a w ⟨hS,hW⟩))⟩
theorem wpAnyL_done {listed:Array Bool} {a:Act} {w:World} (hr:Region.ready md ops listed=[]) (h:Q .normal a w):∀fuel,wpAnyL P md ops Q S late fuel listed a w
 |0=>⟨hr,h⟩
 |_+1=>⟨fun _=>h,by rw [hr];simp⟩
theorem wp_region_late {id:Nat} {a:Act} {w:World} (late:Nat→Bool) (hm:P.follows .mixedOrders=true) (hS:S w.drew)
  (h:S w.drew→wpAnyL P .any ops Q S late ops.size (Array.replicate ops.size false) a w.drew):(Code.region id ops true).wp P Q a w:=
 wp_region_any hm (wpAny_of_late _ _ _ _ (h hS))
end
section
variable {N:Nat} {w w':World}
def rowsOf (F:Nat→Array Value) (m:Nat):List Value:=(List.range m).flatMap fun j=>(F j).toList
theorem rowsOf_succ (F:Nat→Array Value) (m:Nat):rowsOf F (m+1)=rowsOf F m++(F m).toList:=by simp [rowsOf,List.range_succ]
theorem rowsOf_length {F:Nat→Array Value} {sz:Nat} (hs:∀j,(F j).size=sz):∀m,(rowsOf F m).length=m*sz
 |0=>by simp [rowsOf]
 |m+1=>by rw [rowsOf_succ,List.length_append,rowsOf_length hs m,Array.length_toList,hs,Nat.add_mul,Nat.one_mul]
theorem rowsOf_at {F:Nat→Array Value} {sz:Nat} (hs:∀j,(F j).size=sz):∀(m j i:Nat),j<m→i<sz→(rowsOf F m)[j*sz+i]? =some ((F j).getD i undef)
 |0,_,_,h,_=>absurd h (Nat.not_lt_zero _)
 |m+1,j,i,hj,hi=>by
  have hl:=rowsOf_length hs m;rw [rowsOf_succ];rcases Nat.lt_or_ge j m with h|h
  ·have:(j+1)*sz≤m*sz:=Nat.mul_le_mul_right _ h
   rw [Nat.add_mul] at this;rw [List.getElem?_append_left (by omega)];exact rowsOf_at hs m j i h hi
  ·obtain rfl:j=m:=by omega
   rw [List.getElem?_append_right (by omega),hl,Nat.add_sub_cancel_left,Array.getElem?_toList];rw [Array.getElem?_eq_getElem (by rw [hs];exact hi)];simp [Array.getD,hs,hi]
theorem rowsOf_one {F:Nat→Array Value} (h1:∀j,(F j).all (·.oneCell')=true) (m:Nat):∀u∈rowsOf F m,u.oneCell'=true:=by
 intro u hu;simp only [rowsOf,List.mem_flatMap] at hu;obtain ⟨j,_,hu⟩:=hu;have:=h1 j;rw [Array.all_eq_true_iff_forall_mem] at this;exact this u (by simpa using hu)
theorem Jg.news {sz:Nat} {sl:SlV} {len:Nat} {F:Nat→Array Value} (h:Jg N w sz sl len (fun j i=>(F j).getD i undef)) (hs:∀j,(F j).size=sz) (hsz:0<sz) {k:Nat} (hk:k≤sl.n) (hu:Upd No w w'):0<k→∃ad,sl.A=some ad∧∀(j:Nat) u,(rowsOf F k)[j]? =some u→w'.cell? (ad.add j)=some u:=by
 intro h0;obtain ⟨b,o,hA,hi,hc⟩:=h.at_ (by omega);refine ⟨_,hA,fun j u hj=>?_⟩;have hjl:j<k*sz:=by
  have:=(List.getElem?_eq_some_iff.1 hj).1
  rw [rowsOf_length hs] at this;exact this
 have h1:j / sz<k:=(Nat.div_lt_iff_lt_mul hsz).2 hjl;have h2:j % sz<sz:=Nat.mod_lt _ hsz;have h3:=rowsOf_at hs k (j / sz) (j % sz) h1 h2;have h4:=hc (j / sz) (j % sz) (by omega) h2;rw [show j / sz*sz+j % sz=j by rw [Nat.mul_comm];exact Nat.div_add_mod j sz] at h3 h4;rw [hj] at h3;injection h3 with h3
 rw [←h3] at h4;have h5:=hu.cell h4 (fun h=>h);unfold Addr.add;split
 ·rename_i hz;subst hz;exact h5
 ·exact h5
def setsAt (cu:Array Value):Nat→List Value→Array Value
 |_,[]=>cu
 |o,x::xs=>setsAt (cu.setIfInBounds o x) (o+1) xs
theorem Blk.sets {g:Nat} {T:TypeId}:∀{W:World} {cu:Array Value} (o:Nat) (xs:List Value),Blk W g T cu→Blk (W.setCells g o xs) g T (setsAt cu o xs)
 |_,_,_,[],h=>h
 |_,_,o,x::xs,h=>Blk.sets (o+1) xs (h.set_ o x)
theorem RowIs.sets {sz m k:Nat} (hk:k<m):∀(xs:List Value) (i0:Nat) {cur:Array Value} {F:Nat→Nat→Value},RowIs cur sz m F→i0+xs.length≤sz→
  RowIs (setsAt cur (k*sz+i0) xs) sz m (fun j i=>if j=k∧i0≤i∧i<i0+xs.length then xs.getD (i - i0) undef else F j i)
 |[],i0,cur,F,h,_=>h.congr fun j i _ _=>by
  have:¬(j=k∧i0≤i∧i<i0+([]:List Value).length):=by simp only [List.length_nil];omega
  rw [if_neg this]
 |x::xs,i0,cur,F,h,hl=>by
  simp only [List.length_cons] at hl;have h1:=RowIs.sets hk xs (i0+1) (h.set hk (show i0<sz by omega) x) (by omega);rw [show k*sz+(i0+1)=k*sz+i0+1 by omega] at h1;refine h1.congr fun j i hj hi=>?_;simp only [List.length_cons];by_cases hjk:j=k
  ·by_cases h2:i=i0
   ·subst h2;subst hjk;rw [if_neg (fun h=>by omega),if_pos ⟨rfl,rfl⟩,if_pos ⟨rfl,by omega,by omega⟩];simp
   ·by_cases h3:i0+1≤i∧i<i0+1+xs.length
    ·rw [if_pos ⟨hjk,h3.1,h3.2⟩,if_pos ⟨hjk,by omega,by omega⟩,show i - i0=(i - (i0+1))+1 by omega,List.getD_cons_succ]
    ·rw [if_neg (fun h=>h3 h.2),if_neg (fun h=>h2 h.2),if_neg (fun h=>by omega)]
  ·rw [if_neg (fun h=>hjk h.1),if_neg (fun h=>hjk h.1),if_neg (fun h=>hjk h.1)]
theorem Jd.size (v:Jd):v.cells.size=16:=rfl
theorem inf43f:(Tryz.prog.info? 43).map (fun i=>(i.zero,i.size,i.bytes))=some (some (.agg Z43),16,216):=by kernel_rfl
def Jd.newer (n:Nat) (v:Jd):Prop:=v.es.newer n∧v.sn.cf.newer n
theorem Jd.Rd.far {v:Jd} {c:SCall} (h:v.Rd N w c) {n:Nat} (hn:v.newer n) {S:Nat→Prop} (hu:Upd S w w') (hS:∀k,S k→k<n):v.Rd N w' c:=
 ⟨h.kind,h.a,h.b,h.cc,Jg.far h.es hu (fun b o hA hk=>absurd (hn.1 b o hA) (by have:=hS b hk;omega)),h.sn.far hn.2 hu hS⟩
def shSCs (cs:List SCall):List SCall:=(cs.take 60).map shSC
theorem map_getD {α β:Type} [Inhabited α] [Inhabited β] (f:α→β) (l:List α) {j:Nat} (h:j<l.length):(l.map f).getD j default=f (l.getD j default):=by
 simp [List.getD_eq_getElem?_getD,List.getElem?_eq_getElem h]
theorem short6 {sl:SlV} {V:Nat→Jd} {cs:List SCall} (h:RawSC N w sl V cs) (hN:N≤w.heap.size):
  Calls Tryz.prog 6 #[.slice sl.A sl.n sl.c] w fun e w'=>∃(t:SlV) (Vn:Nat→Jd),e=.returned (.slice t.A t.n t.c)∧RdSC N w' t Vn (shSCs cs)∧Upd No w w':=by
 have hl:=h.1.len;have hcap:=h.1.cap;obtain ⟨m,hm⟩:∃m,m=(min (sl.n:Int) 60).toNat:=⟨_,rfl⟩;have hm1:m≤sl.n:=by omega
 have hm2:m≤60:=by omega
 have HS:=qq (Jg.news h.1 (fun j=>Jd.size (V j)) (by omega) hm1 ((Upd.refl No w).alloc (.cells #[] 43)));have HOW:=qq (own_empty' (W:=w.alloc (.cells #[] 43)) (base:=w.heap.size) (T:=43) (sz:=16) (Blk.new w 43 #[]) (Nat.le_refl _));have HZ:=qq (show w.heap.size≤(w.alloc (.cells #[] 43)).heap.size by simp);have HLS:=qq (show (shSCs cs).length=m by unfold shSCs;rw [List.length_map,List.length_take];omega)
 have HGD:=qq (show ∀j,j<m→(shSCs cs).getD j default=shSC (cs.getD j default) from fun j hj=>by
  unfold shSCs;rw [map_getD _ _ (by rw [List.length_take];omega),getD_take_lt (by omega)])
 have HM2:=qq hm2;have HMM:=qq hm;have HRW:=qq fun (W:World) (hu:Upd No w W) (j:Nat) (hj:j<m)=>(show (V j).Raw N W (cs.getD j default) from (h.2 j (by omega)).fr hu.fr0);have H16:=qq fun (W:World) (hu:Upd No w W) (j:Nat) (hj:j<m)=>(show Calls Tryz.prog 16 #[.agg (V j).cells] W _ from short16 ((h.2 j (by omega)).fr hu.fr0) (Nat.le_trans hN hu.size));have HNN:=qq hN;clear h hl hm hm1 hm2 hN;go_enter Tryz.func6,Tryz.ntmps6
 go_upto_region 2 with (first
  |(at_builtin;rw [←HMM.out];refine app_src rfl (.tmp 5) (.tmp 10) 22 rfl w.heap.size 43 (.agg Z43) 16 216 Tryz.underlying22 inf43f rfl (by omega) (.slice (some ⟨w.heap.size,0,none⟩) 0 0) 0 [] rfl HOW.out sl.A m sl.c (rowsOf (fun j=>(V j).cells) m) rfl (by rw [rowsOf_length (fun j=>Jd.size _)]) HS.out (rowsOf_one (fun j=>Jd.one _) m) (by have:=HM2.out;simp only [maxLen];omega) (by have:=HM2.out;omega) HZ.out ?_
    intro v2 w2 ho2 hg2 hb2 hn2 hp2)
  |fail)
 rw [Nat.zero_add,List.nil_append] at ho2;have hvne:v2≠ .slice none 0 0:=by
  rcases Nat.eq_zero_or_pos m with h0|h0
  ·rw [hn2 h0];exact fun e=>by cases e
  ·exact hp2 h0
 obtain ⟨g,cap,cur,rfl,hg,hb,hmc,hrow⟩:=own_block ho2 hvne;have HG:=qq hg;have HB:=qq hb;have HMC:=qq hmc
 have HROW:=qq (hrow.congr (G:=fun j i=>(if j<0 then V j else V j).cells.getD i undef) fun j i hj hi=>by
  rw [List.getD_eq_getElem?_getD,rowsOf_at (F:=fun j=>(V j).cells) (fun j=>Jd.size _) m j i hj hi];rfl)
 have HU:=qq (show Upd No w w2 from ((Upd.refl No w).alloc (.cells #[] 43)).grown hg2 (fun k hk=>.inr (by cases hk;exact Nat.le_refl _)));have HNM:=qq (show m≤maxLen by have:=HM2.out;simp only [maxLen];omega);have hm60:=HM2.out;clear ho2 hg2 hb2 hn2 hp2 hvne hg hb hmc hrow HS HOW HZ HMM;go_wp2_with fail
 go_loopw [4,14] (fun _ i wr=>∃(k:Nat) (cu:Array Value) (Vn:Nat→Jd),k≤m∧i=.int .i64 (k:Nat)∧Hid (Blk wr g 43 cu)∧Hid (RowIs cu 16 m (fun j i=>(if j<k then Vn j else V j).cells.getD i undef))∧
   Hid (∀j,j<k→(Vn j).Rd N wr (shSC (cs.getD j default))∧(Vn j).newer (g+1))∧Hid (Upd No w wr)) (fun _ i _=>m - (intOf i).toNat)
 case atStart=>exact ⟨0,cur,V,Nat.zero_le _,rfl,HB,HROW,qq fun j hj=>absurd hj (Nat.not_lt_zero _),HU⟩
 case round=>
  obtain ⟨k,cu,Vn,hk,rfl,hb,hr,hd,hu⟩:=hrel;by_cases hlt:k<m
  ·have HR:=qq (show wr.rangeAt g (k*16) (V k).cells.toList from by
    have:=range_of (wr:=wr) (b:=g) (o:=0) (k:=k) (sz:=16) (cs:=(V k).cells) rfl (fun i hi=>by
     rw [Nat.zero_add,hb.out.cell,hr.out k i hlt hi];simp only [Nat.lt_irrefl,if_false])
    rw [Nat.zero_add] at this;exact this)
   have HI:=qq (show (Tryz.prog.info? 43).map (·.size)=some (V k).cells.toList.length from (by kernel_rfl:(Tryz.prog.info? 43).map (·.size)=some 16));have HC:=qq (H16.out wr hu.out k hlt);have HGS:=qq (show g+1≤wr.heap.size from hb.out.lt);have HVK:=qq (show (if k<k then Vn k else V k)=V k from if_neg (Nat.lt_irrefl k));obtain ⟨vk,hvk⟩:∃x,x=V k:=⟨_,rfl⟩;rw [←hvk] at HR HI HC;have HVE:=qq hvk;clear hvk
   go_wp2_with (first
    |(with_reducible refine load_midA rfl 43 (.tmp 21) rfl g (k*16) rfl vk.cells _ HR.out Tryz.underlying43 rfl HI.out ?_)
    |fail)
   refine HC.out.mono ?_;rintro r w3 ⟨t,rfl,ht,hn1,hn2,hu3⟩;have HT:=qq ht;have HTN:=qq (show t.newer (g+1) from ⟨hn1.mono HGS.out,hn2.mono HGS.out⟩);have HB3:=qq (hb.out.upd hu3 (fun h=>h));have HU3:=qq (hu.out.no hu3);have HD3:=qq fun (j:Nat) (hj:j<k)=>(show (Vn j).Rd N w3 (shSC (cs.getD j default))∧(Vn j).newer (g+1) from ⟨(hd.out j hj).1.fr hu3.fr0,(hd.out j hj).2⟩)
   have HSZ:=qq (show k*16+t.cells.size≤cu.size from by
    have h1:=(Array.getElem?_eq_some_iff.1 (hr.out k 15 hlt (by omega))).1;have:t.cells.size=16:=rfl
    omega)
   have HIT:=qq t.inf;have HOT:=qq t.one;clear ht hn1 hn2 hu3
   go_wp2_with (first
    |(with_reducible refine Kc rfl 43 (.tmp 24) (.tmp 23) rfl g (k*16) t.cells rfl rfl 43 cu (setsAt cu (k*16) t.cells.toList) HB3.out (fun W hb=>Blk.sets _ _ hb) HSZ.out HIT.out HOT.out ?_
      intro w4 hb4 hu4;have HB4:=qq hb4;have HU4:=qq hu4
      clear hb4 hu4)
    |fail)
   refine ⟨⟨k+1,_,fun j=>if j=k then t else Vn j,by omega,by simp,HB4,qq ?_,qq fun j hj=>?_,qq (HU3.out.trans HU4.out (by rintro j rfl;exact .inr HG.out))⟩,by simp [intOf];omega⟩
   ·have h1:=hr.out.sets hlt t.cells.toList 0 (by show 0+16≤16;omega);rw [Nat.add_zero] at h1;refine h1.congr fun j i hj hi=>?_;dsimp only;by_cases hjk:j=k
    ·subst hjk;rw [if_pos ⟨rfl,Nat.zero_le _,by show i<0+16;omega⟩,if_pos (Nat.lt_succ_self _),if_pos rfl,Nat.sub_zero];simp [Array.getD_eq_getD_getElem?,List.getD_eq_getElem?_getD]
    ·rw [if_neg (fun h=>hjk h.1)];by_cases h2:j<k
     ·rw [if_pos h2,if_pos (by omega),if_neg hjk]
     ·rw [if_neg h2,if_neg (by omega)]
   ·dsimp only;by_cases hjk:j=k
    ·subst hjk;rw [if_pos rfl];exact ⟨HT.out.far HTN.out HU4.out (by rintro q rfl;omega),HTN.out⟩
    ·rw [if_neg hjk];exact ⟨(HD3.out j (by omega)).1.far (HD3.out j (by omega)).2 HU4.out (by rintro q rfl;omega),(HD3.out j (by omega)).2⟩
  ·obtain rfl:k=m:=by omega
   have HF:=qq (show RdSC N wr ⟨some ⟨g,0,none⟩,k,cap⟩ Vn (shSCs cs) from ⟨by
    have h1:=(hr.out.congr (G:=fun j i=>(Vn j).cells.getD i undef) fun j i hj hi=>by rw [if_pos hj]).rd hb.out rfl HMC.out N;rw [HLS.out];exact h1,fun j hj=>by
    rw [HLS.out] at hj
    rw [HGD.out j hj];exact (hd.out j hj).1⟩)
   clear hr hb hd;go_wp2;go_ret;exact ⟨⟨some ⟨g,0,none⟩,k,cap⟩,Vn,rfl,HF.out,hu.out⟩
theorem Jc.size (v:Jc):v.cells.size=34:=rfl
theorem inf45f:(Tryz.prog.info? 45).map (fun i=>(i.zero,i.size,i.bytes))=some (some (.agg Z45),34,448):=by kernel_rfl
theorem setsAt_size:∀(xs:List Value) (cu:Array Value) (o:Nat),(setsAt cu o xs).size=cu.size
 |[],_,_=>rfl
 |x::xs,cu,o=>(setsAt_size xs _ _).trans (Array.size_setIfInBounds ..)
def Jc.newer (n:Nat) (v:Jc):Prop:=v.es.newer n∧v.sn.cf.newer n∧v.st.newer n
theorem Jc.Rd.far {v:Jc} {c:LCall} (h:v.Rd N w c) {n:Nat} (hn:v.newer n) {S:Nat→Prop} (hu:Upd S w w') (hS:∀k,S k→k<n):v.Rd N w' c:=
 ⟨h.kind,h.a,h.b,h.cc,h.flag,h.atT,h.atI,h.pT,h.pI,Jg.far h.es hu (fun b o hA hk=>absurd (hn.1 b o hA) (by have:=hS b hk;omega)),h.sn.far hn.2.1 hu hS,h.st.far hn.2.2 hu hS⟩
def shLC (c:LCall):LCall:={c with es:=shEs c.es,snap:=shS c.snap,st:=shSC c.st}
def shLCs (cs:List LCall):List LCall:=(cs.take 60).map shLC
theorem Jc.cells_put (v:Jc) (t:SlV) (T:SnV) (X:Jd) (i:Nat) (hi:i<34):
  (if i<18 then (if i<10 then (if i=9 then Value.slice t.A t.n t.c else v.cells.getD i undef) else T.cells.toList.getD (i - 10) undef) else X.cells.toList.getD (i - 18) undef)=({v with es:=t,sn:=T,st:=X}:Jc).cells.getD i undef:=by
 match i,hi with
 |0,_|1,_|2,_|3,_|4,_|5,_|6,_|7,_|8,_|9,_|10,_|11,_|12,_|13,_|14,_|15,_|16,_|17,_|18,_|19,_|20,_|21,_|22,_|23,_|24,_|25,_|26,_|27,_|28,_|29,_|30,_|31,_|32,_|33,_=>rfl
 |_+34,h=>exact absurd h (by omega)
set_option maxHeartbeats 8000000 in
theorem short7 {sl:SlV} {V:Nat→Jc} {cs:List LCall} (h:RawLC N w sl V cs) (hN:N≤w.heap.size):
  Calls Tryz.prog 7 #[.slice sl.A sl.n sl.c] w fun e w'=>∃(t:SlV) (Vn:Nat→Jc),e=.returned (.slice t.A t.n t.c)∧RdLC N w' t Vn (shLCs cs)∧Upd No w w':=by
 have hl:=h.1.len;have hcap:=h.1.cap;obtain ⟨m,hm⟩:∃m,m=(min (sl.n:Int) 60).toNat:=⟨_,rfl⟩;have hm1:m≤sl.n:=by omega
 have hm2:m≤60:=by omega
 have HS:=qq (Jg.news h.1 (fun j=>Jc.size (V j)) (by omega) hm1 ((Upd.refl No w).alloc (.cells #[] 45)));have HOW:=qq (own_empty' (W:=w.alloc (.cells #[] 45)) (base:=w.heap.size) (T:=45) (sz:=34) (Blk.new w 45 #[]) (Nat.le_refl _));have HZ:=qq (show w.heap.size≤(w.alloc (.cells #[] 45)).heap.size by simp);have HLS:=qq (show (shLCs cs).length=m by unfold shLCs;rw [List.length_map,List.length_take];omega)
 have HGD:=qq (show ∀j,j<m→(shLCs cs).getD j default=shLC (cs.getD j default) from fun j hj=>by
  unfold shLCs;rw [map_getD _ _ (by rw [List.length_take];omega),getD_take_lt (by omega)])
 have HM2:=qq hm2;have HMM:=qq hm;have HRW:=qq fun (W:World) (hu:Upd No w W) (j:Nat) (hj:j<m)=>(show (V j).Raw N W (cs.getD j default) from (h.2 j (by omega)).fr hu.fr0);have HNN:=qq hN;clear h hl hm hm1 hm2 hN;go_enter Tryz.func7,Tryz.ntmps7
 go_upto_region 2 with (first
  |(at_builtin;rw [←HMM.out];refine app_src rfl (.tmp 5) (.tmp 10) 24 rfl w.heap.size 45 (.agg Z45) 34 448 Tryz.underlying24 inf45f rfl (by omega) (.slice (some ⟨w.heap.size,0,none⟩) 0 0) 0 [] rfl HOW.out sl.A m sl.c (rowsOf (fun j=>(V j).cells) m) rfl (by rw [rowsOf_length (fun j=>Jc.size _)]) HS.out (rowsOf_one (fun j=>Jc.one _) m) (by have:=HM2.out;simp only [maxLen];omega) (by have:=HM2.out;omega) HZ.out ?_
    intro v2 w2 ho2 hg2 hb2 hn2 hp2)
  |fail)
 rw [Nat.zero_add,List.nil_append] at ho2;have hvne:v2≠ .slice none 0 0:=by
  rcases Nat.eq_zero_or_pos m with h0|h0
  ·rw [hn2 h0];exact fun e=>by cases e
  ·exact hp2 h0
 obtain ⟨g,cap,cur,rfl,hg,hb,hmc,hrow⟩:=own_block ho2 hvne;have HG:=qq hg;have HB:=qq hb;have HMC:=qq hmc
 have HROW:=qq (hrow.congr (G:=fun j i=>(if j<0 then V j else V j).cells.getD i undef) fun j i hj hi=>by
  rw [List.getD_eq_getElem?_getD,rowsOf_at (F:=fun j=>(V j).cells) (fun j=>Jc.size _) m j i hj hi];rfl)
 have HU:=qq (show Upd No w w2 from ((Upd.refl No w).alloc (.cells #[] 45)).grown hg2 (fun k hk=>.inr (by cases hk;exact Nat.le_refl _)));have HNM:=qq (show m≤maxLen by have:=HM2.out;simp only [maxLen];omega);have hm60:=HM2.out;clear ho2 hg2 hb2 hn2 hp2 hvne hg hb hmc hrow HS HOW HZ HMM;go_wp2_with fail
 go_loopw [4,14] (fun _ i wr=>∃(k:Nat) (cu:Array Value) (Vn:Nat→Jc),k≤m∧i=.int .i64 (k:Nat)∧Hid (Blk wr g 45 cu)∧Hid (RowIs cu 34 m (fun j i=>(if j<k then Vn j else V j).cells.getD i undef))∧
   Hid (∀j,j<k→(Vn j).Rd N wr (shLC (cs.getD j default))∧(Vn j).newer (g+1))∧Hid (Upd No w wr)) (fun _ i _=>m - (intOf i).toNat)
 case atStart=>exact ⟨0,cur,V,Nat.zero_le _,rfl,HB,HROW,qq fun j hj=>absurd hj (Nat.not_lt_zero _),HU⟩
 case round=>
  obtain ⟨k,cu,Vn,hk,rfl,hb,hr,hd,hu⟩:=hrel;by_cases hlt:k<m
  ·have HROWK:=qq fun (i:Nat) (hi:i<34)=>(show cu[k*34+i]? =some ((V k).cells.getD i undef) by rw [hr.out k i hlt hi];simp only [Nat.lt_irrefl,if_false]);have HGS:=qq (show g+1≤wr.heap.size from hb.out.lt);have HVR:=qq (HRW.out wr hu.out k hlt)
   have HCS:=qq (show k*34+34≤cu.size from by
    have h1:=(Array.getElem?_eq_some_iff.1 (hr.out k 33 hlt (by omega))).1
    omega)
   obtain ⟨vk,hvk⟩:∃x,x=V k:=⟨_,rfl⟩;rw [←hvk] at HROWK HVR;have HVE:=qq hvk;clear hvk
   have HSS:=qq fun (W:World) (hu2:Upd No wr W)=>(show W.cell? ⟨g,k*34+9,none⟩=some vk.es.v∧W.rangeAt g (k*34+10) vk.sn.cells.toList∧W.rangeAt g (k*34+18) vk.st.cells.toList from
    have hb2:=hb.out.upd hu2 (fun h=>h)
    ⟨by rw [hb2.cell,HROWK.out 9 (by omega)];rfl,hb2.rangeIn (n:=8) (fun j hj=>by rw [Nat.add_assoc,HROWK.out (10+j) (by omega)];have:=Jc.sn_range vk j hj;rw [←this,Array.getElem?_eq_getElem (by rw [Jc.size];omega)];simp [Array.getD,Jc.size,show 10+j<34 by omega]) rfl,
     hb2.rangeIn (n:=16) (fun j hj=>by rw [Nat.add_assoc,HROWK.out (18+j) (by omega)];have:=Jc.st_range vk j hj;rw [←this,Array.getElem?_eq_getElem (by rw [Jc.size];omega)];simp [Array.getD,Jc.size,show 18+j<34 by omega]) rfl⟩)
   have HC9:=qq fun (W:World) (hb2:Blk W g 45 cu)=>(show W.cell? ⟨g,k*34+9,none⟩=some vk.es.v by rw [hb2.cell,HROWK.out 9 (by omega)];rfl);have U0:=qq (show Upd No wr wr.drew from (Upd.refl No wr).drew);have H17:=qq fun (W:World) (hu2:Upd No wr W)=>short17 (HVR.out.es.fr hu2.fr0);have H18:=qq fun (W:World) (hu2:Upd No wr W)=>(show Calls Tryz.prog 18 #[.agg vk.sn.cells] W _ from short18 (HVR.out.sn.fr hu2.fr0) (Nat.le_trans HNN.out (hu.out.no hu2).size));have H16:=qq fun (W:World) (hu2:Upd No wr W)=>(show Calls Tryz.prog 16 #[.agg vk.st.cells] W _ from short16 (HVR.out.st.fr hu2.fr0) (Nat.le_trans HNN.out (hu.out.no hu2).size));have HU39:=qq Tryz.underlying39;have HU43:=qq Tryz.underlying43;go_upto_region 5 with fail
   refine wp_region_late (S:=(fun W=>W.cell? ⟨g,k*34+9,none⟩=some vk.es.v∧W.rangeAt g (k*34+10) vk.sn.cells.toList∧W.rangeAt g (k*34+18) vk.st.cells.toList)) (fun k=>k==26||k==29||k==32) (by kernel_rfl) (HSS.out _ U0.out) (fun hHeld=>?_);refine Jt (i:=0) (oi:=⟨some 17,_,_,_,_,_⟩) (v:=?_) rfl (by kernel_rfl) (by kernel_rfl) (by kernel_rfl) (fun _ _ _ h=>h) (Or.inl ⟨by rfl,?_⟩) ?_;rotate_left 1
   ·(intro w _;go_simp);all_goals with_reducible rfl
   try simp only [NR]
   refine Jt (i:=1) (oi:=⟨some 18,_,_,_,_,_⟩) (v:=?_) rfl (by kernel_rfl) (by kernel_rfl) (by kernel_rfl) (fun _ _ _ h=>h) (Or.inl ⟨by rfl,?_⟩) ?_;rotate_left 1
   ·(intro w _;go_simp);all_goals with_reducible rfl
   try simp only [NR]
   refine Jt (i:=2) (oi:=⟨some 19,_,_,_,_,_⟩) (v:=?_) rfl (by kernel_rfl) (by kernel_rfl) (by kernel_rfl) (fun _ _ _ h=>h) (Or.inl ⟨by rfl,?_⟩) ?_;rotate_left 1
   ·(intro w _;go_simp);all_goals with_reducible rfl
   try simp only [NR]
   refine Jt (i:=3) (oi:=⟨some 20,_,_,_,_,_⟩) (v:=?_) rfl (by kernel_rfl) (by kernel_rfl) (by kernel_rfl) (fun _ _ _ h=>h) (Or.inl ⟨by rfl,?_⟩) ?_;rotate_left 1
   ·(intro w _;go_simp);all_goals with_reducible rfl
   try simp only [NR]
   refine Jt (i:=4) (oi:=⟨some 21,_,_,_,_,_⟩) (v:=?_) rfl (by kernel_rfl) (by kernel_rfl) (by kernel_rfl) (fun _ _ _ h=>h) (Or.inl ⟨by rfl,?_⟩) ?_;rotate_left 1
   ·(intro w _;go_simp);all_goals with_reducible rfl
   try simp only [NR]
   refine Jt (i:=5) (oi:=⟨some 22,_,_,_,_,_⟩) (v:=?_) rfl (by kernel_rfl) (by kernel_rfl) (by kernel_rfl) (fun _ _ _ h=>h) (Or.inl ⟨by rfl,?_⟩) ?_;rotate_left 1
   ·(intro w _;go_simp);all_goals with_reducible rfl
   try simp only [NR]
   refine Jt (i:=6) (oi:=⟨some 23,_,_,_,_,_⟩) (v:=?_) rfl (by kernel_rfl) (by kernel_rfl) (by kernel_rfl) (fun _ _ _ h=>h) (Or.inl ⟨by rfl,?_⟩) ?_;rotate_left 1
   ·(intro w _;go_simp);all_goals with_reducible rfl
   try simp only [NR]
   refine Jt (i:=7) (oi:=⟨some 24,_,_,_,_,_⟩) (v:=?_) rfl (by kernel_rfl) (by kernel_rfl) (by kernel_rfl) (fun _ _ _ h=>h) (Or.inl ⟨by rfl,?_⟩) ?_;rotate_left 1
   ·(intro w _;go_simp);all_goals with_reducible rfl
   try simp only [NR]
   refine Jt (i:=8) (oi:=⟨some 25,_,_,_,_,_⟩) (v:=?_) rfl (by kernel_rfl) (by kernel_rfl) (by kernel_rfl) (fun _ _ _ h=>h) (Or.inl ⟨by rfl,?_⟩) ?_;rotate_left 1
   ·(intro w _;go_simp);all_goals with_reducible rfl
   try simp only [NR]
   refine Jt (i:=9) (oi:=⟨some 26,_,_,_,_,_⟩) (v:=?_) rfl (by kernel_rfl) (by kernel_rfl) (by kernel_rfl) (fun _ _ _ h=>h) (Or.inl ⟨by rfl,?_⟩) ?_;rotate_left 1
   ·(intro w _;go_simp);all_goals with_reducible rfl
   try simp only [NR]
   refine wpAnyL_take (i:=10) (oi:=⟨some 27,_,_,_,_,_⟩) (v:=?_) rfl (by kernel_rfl) (by kernel_rfl) (by kernel_rfl) (by kernel_rfl) (fun _ _ _ h=>h) (Or.inl ⟨by rfl,?_⟩) (by assumption) ?_;rotate_left 1
   ·intro w hS;go_simp;all_goals with_reducible rfl
   try simp only [NR]
   refine Jt (i:=12) (oi:=⟨some 29,_,_,_,_,_⟩) (v:=?_) rfl (by kernel_rfl) (by kernel_rfl) (by kernel_rfl) (fun _ _ _ h=>h) (Or.inl ⟨by rfl,?_⟩) ?_;rotate_left 1
   ·(intro w _;go_simp);all_goals with_reducible rfl
   try simp only [NR]
   refine Jt (i:=13) (oi:=⟨some 30,_,_,_,_,_⟩) (v:=?_) rfl (by kernel_rfl) (by kernel_rfl) (by kernel_rfl) (fun _ _ _ h=>h) (Or.inl ⟨by rfl,?_⟩) ?_;rotate_left 1
   ·(intro w _;go_simp);all_goals with_reducible rfl
   try simp only [NR]
   refine Jt (i:=14) (oi:=⟨some 31,_,_,_,_,_⟩) (v:=?_) rfl (by kernel_rfl) (by kernel_rfl) (by kernel_rfl) (fun _ _ _ h=>h) (Or.inl ⟨by rfl,?_⟩) ?_;rotate_left 1
   ·(intro w _;go_simp);all_goals with_reducible rfl
   try simp only [NR]
   refine Jt (i:=15) (oi:=⟨some 32,_,_,_,_,_⟩) (v:=?_) rfl (by kernel_rfl) (by kernel_rfl) (by kernel_rfl) (fun _ _ _ h=>h) (Or.inl ⟨by rfl,?_⟩) ?_;rotate_left 1
   ·(intro w _;go_simp);all_goals with_reducible rfl
   try simp only [NR]
   refine wpAnyL_take (i:=16) (oi:=⟨some 33,_,_,_,_,_⟩) (v:=.agg vk.sn.cells) rfl (by kernel_rfl) (by kernel_rfl) (by kernel_rfl) (by kernel_rfl) (fun _ _ _ h=>h) (Kd (by rfl) 39 (.tmp 32) rfl g (k*34+10) rfl vk.sn.cells _ (fun _ hS=>hS.2.1) HU39.out rfl (SnV.inf8 _)) hHeld ?_;try simp only [NR]
   refine Jt (i:=18) (oi:=⟨some 35,_,_,_,_,_⟩) (v:=?_) rfl (by kernel_rfl) (by kernel_rfl) (by kernel_rfl) (fun _ _ _ h=>h) (Or.inl ⟨by rfl,?_⟩) ?_;rotate_left 1
   ·(intro w _;go_simp);all_goals with_reducible rfl
   try simp only [NR]
   refine Jt (i:=19) (oi:=⟨some 36,_,_,_,_,_⟩) (v:=?_) rfl (by kernel_rfl) (by kernel_rfl) (by kernel_rfl) (fun _ _ _ h=>h) (Or.inl ⟨by rfl,?_⟩) ?_;rotate_left 1
   ·(intro w _;go_simp);all_goals with_reducible rfl
   try simp only [NR]
   refine Jt (i:=20) (oi:=⟨some 37,_,_,_,_,_⟩) (v:=?_) rfl (by kernel_rfl) (by kernel_rfl) (by kernel_rfl) (fun _ _ _ h=>h) (Or.inl ⟨by rfl,?_⟩) ?_;rotate_left 1
   ·(intro w _;go_simp);all_goals with_reducible rfl
   try simp only [NR]
   refine Jt (i:=21) (oi:=⟨some 38,_,_,_,_,_⟩) (v:=?_) rfl (by kernel_rfl) (by kernel_rfl) (by kernel_rfl) (fun _ _ _ h=>h) (Or.inl ⟨by rfl,?_⟩) ?_;rotate_left 1
   ·(intro w _;go_simp);all_goals with_reducible rfl
   try simp only [NR]
   refine wpAnyL_take (i:=22) (oi:=⟨some 39,_,_,_,_,_⟩) (v:=.agg vk.st.cells) rfl (by kernel_rfl) (by kernel_rfl) (by kernel_rfl) (by kernel_rfl) (fun _ _ _ h=>h) (Kd (by rfl) 43 (.tmp 38) rfl g (k*34+18) rfl vk.st.cells _ (fun _ hS=>hS.2.2) HU43.out rfl vk.st.inf) hHeld ?_;try simp only [NR]
   refine wpAnyL_one (i:=11) (o:=⟨some 28,_,_,_,_,_⟩) (by kernel_rfl) rfl (fun K hK=>?_);rw [if_pos (by rfl)];go_simp;refine (H17.out _ U0.out).mono ?_;rintro r wN ⟨t,rfl,hr,hnw,hu⟩;have U1:=qq (U0.out.no hu);have R1:=qq hr;have E1:=qq (hnw.mono (Nat.le_trans HGS.out U0.out.size));clear hr hnw hu;go_wp2_with fail
   have hHeld:=HSS.out _ U1.out;refine hK.out _ _ (fun _ _=>hHeld) ?_;clear hK;try simp only [NR]
   refine wpAnyL_one (i:=17) (o:=⟨some 34,_,_,_,_,_⟩) (by kernel_rfl) rfl (fun K hK=>?_);rw [if_pos (by rfl)];go_simp;refine (H18.out _ U1.out).mono ?_;rintro r wN ⟨T,rfl,hr,hnw,hu⟩;have U2:=qq (U1.out.no hu);have R1:=qq (R1.out.fr hu.fr0);have R2:=qq hr;have E2:=qq (hnw.mono (Nat.le_trans HGS.out U1.out.size));clear hr hnw hu;go_wp2_with fail
   have hHeld:=HSS.out _ U2.out;refine hK.out _ _ (fun _ _=>hHeld) ?_;clear hK;try simp only [NR]
   refine wpAnyL_one (i:=23) (o:=⟨some 40,_,_,_,_,_⟩) (by kernel_rfl) rfl (fun K hK=>?_);rw [if_pos (by rfl)];go_simp;refine (H16.out _ U2.out).mono ?_;rintro r wN ⟨X,rfl,hr,hn1,hn2,hu⟩;have U3:=qq (U2.out.no hu);have R1:=qq (R1.out.fr hu.fr0);have R2:=qq (R2.out.fr hu.fr0);have R3:=qq hr;have E3:=qq (show X.newer (g+1) from ⟨hn1.mono (Nat.le_trans HGS.out U2.out.size),hn2.mono (Nat.le_trans HGS.out U2.out.size)⟩);obtain ⟨w3,hw3⟩:∃W,W=wN:=⟨_,rfl⟩;rw [←hw3] at U3 R1 R2 R3 ⊢;clear hr hn1 hn2 hu hw3;go_wp2_with fail
   have hHeld:=HSS.out _ U3.out;refine hK.out _ _ (fun _ _=>hHeld) ?_;clear hK;try simp only [NR]
   have HB3:=qq (hb.out.upd U3.out (fun h=>h));have c9:=HC9.out w3 HB3.out;have y:=HB3.out.frozen;refine Jt (i:=24) (oi:=⟨some 41,_,_,_,_,_⟩) (v:=?_) rfl (by kernel_rfl) (by kernel_rfl) (by kernel_rfl) (fun _ _ _ h=>h) (Or.inl ⟨by rfl,?_⟩) ?_;rotate_left 1
   ·(intro w _;go_simp);all_goals with_reducible rfl
   try simp only [NR]
   refine Jt (i:=25) (oi:=⟨some 42,_,_,_,_,_⟩) (v:=?_) rfl (by kernel_rfl) (by kernel_rfl) (by kernel_rfl) (fun _ _ _ h=>h) (Or.inl ⟨by rfl,?_⟩) ?_;rotate_left 1
   ·(intro w _;go_simp);all_goals with_reducible rfl
   try simp only [NR]
   refine wpAnyL_one (i:=26) (o:=⟨none,_,_,_,_,_⟩) (by kernel_rfl) rfl (fun K hK=>?_);rw [if_pos (by rfl)];go_simp;refine hK.out _ _ (fun h=>by cases h) ?_;clear hK;try simp only [NR]
   clear c9 y;obtain ⟨w4,hw4⟩:∃W,W=w3.setCell ⟨g,k*34+9,none⟩ t.v:=⟨_,rfl⟩;have HB4:=qq (show Blk w4 g 45 (cu.setIfInBounds (k*34+9) t.v) by rw [hw4];exact HB3.out.set_ _ _);have U4:=qq (show Upd (fun j=>j=g) w3 w4 by rw [hw4];exact (Upd.refl (fun j=>j=g) w3).setIn rfl _ _);rw [←hw4];clear hw4;refine Jt (i:=27) (oi:=⟨some 43,_,_,_,_,_⟩) (v:=?_) rfl (by kernel_rfl) (by kernel_rfl) (by kernel_rfl) (fun _ _ _ h=>h) (Or.inl ⟨by rfl,?_⟩) ?_;rotate_left 1
   ·(intro w _;go_simp);all_goals with_reducible rfl
   try simp only [NR]
   refine Jt (i:=28) (oi:=⟨some 44,_,_,_,_,_⟩) (v:=?_) rfl (by kernel_rfl) (by kernel_rfl) (by kernel_rfl) (fun _ _ _ h=>h) (Or.inl ⟨by rfl,?_⟩) ?_;rotate_left 1
   ·(intro w _;go_simp);all_goals with_reducible rfl
   try simp only [NR]
   refine wpAnyL_one (i:=29) (o:=⟨none,_,_,_,_,_⟩) (by kernel_rfl) rfl (fun K hK=>?_);refine step_store_mid rfl 39 (.tmp 44) (.tmp 34) rfl g (k*34+10) T.cells rfl rfl 45 _ (setsAt (cu.setIfInBounds (k*34+9) t.v) (k*34+10) T.cells.toList) HB4.out (fun W hb=>Blk.sets _ _ hb) (by rw [Array.size_setIfInBounds];have h1:=HCS.out;have h2:T.cells.size=8:=rfl;omega) (SnV.inf8 T) (SnV.one8 T) ?_;intro w5 hb5 hu5;have HB5:=qq hb5;have U5:=qq (U4.out.Ke hu5);clear hb5 hu5;refine hK.out _ _ (fun h=>by cases h) ?_;clear hK;try simp only [NR]
   refine Jt (i:=30) (oi:=⟨some 45,_,_,_,_,_⟩) (v:=?_) rfl (by kernel_rfl) (by kernel_rfl) (by kernel_rfl) (fun _ _ _ h=>h) (Or.inl ⟨by rfl,?_⟩) ?_;rotate_left 1
   ·(intro w _;go_simp);all_goals with_reducible rfl
   try simp only [NR]
   refine Jt (i:=31) (oi:=⟨some 46,_,_,_,_,_⟩) (v:=?_) rfl (by kernel_rfl) (by kernel_rfl) (by kernel_rfl) (fun _ _ _ h=>h) (Or.inl ⟨by rfl,?_⟩) ?_;rotate_left 1
   ·(intro w _;go_simp);all_goals with_reducible rfl
   try simp only [NR]
   refine wpAnyL_one (i:=32) (o:=⟨none,_,_,_,_,_⟩) (by kernel_rfl) rfl (fun K hK=>?_);refine step_store_mid rfl 43 (.tmp 46) (.tmp 40) rfl g (k*34+18) X.cells rfl rfl 45 _ (setsAt (setsAt (cu.setIfInBounds (k*34+9) t.v) (k*34+10) T.cells.toList) (k*34+18) X.cells.toList) HB5.out (fun W hb=>Blk.sets _ _ hb) (by rw [setsAt_size,Array.size_setIfInBounds];have h1:=HCS.out;have h2:X.cells.size=16:=rfl;omega) X.inf X.one ?_;intro w6 hb6 hu6;have HB6:=qq hb6;have U6:=qq (U5.out.Ke hu6);clear hb6 hu6;refine hK.out _ _ (fun h=>by cases h) ?_;clear hK;try simp only [NR]
   refine wpAnyL_done (by kernel_rfl) ?_ _;go_wp2;have hU6:Upd (fun j=>j=g) w3 w6:=U6.out;have hSg:∀q,q=g→q<g+1:=fun q hq=>by omega
   refine ⟨⟨k+1,_,fun j=>if j=k then ({vk with es:=t,sn:=T,st:=X}:Jc) else Vn j,by omega,by simp,HB6,qq ?_,qq fun j hj=>?_,qq ((hu.out.no U3.out).trans U6.out (by rintro j rfl;exact .inr HG.out))⟩,by simp [intOf];omega⟩
   ·have h1:=hr.out.set hlt (show 9<34 by omega) t.v;have h2:=h1.sets hlt T.cells.toList 10 (by show 10+8≤34;omega);have h3:=h2.sets hlt X.cells.toList 18 (by show 18+16≤34;omega);refine h3.congr fun j i hj hi=>?_;dsimp only;by_cases hjk:j=k
    ·subst hjk;rw [if_pos (Nat.lt_succ_self _),if_pos rfl,←Jc.cells_put vk t T X i hi];have e1:X.cells.toList.length=16:=rfl;have e2:T.cells.toList.length=8:=rfl;rw [e1,e2];by_cases h18:i<18
     ·rw [if_pos h18,if_neg (fun h=>by omega)];by_cases h10:i<10
      ·rw [if_pos h10,if_neg (fun h=>by omega)];by_cases h9:i=9
       ·rw [if_pos h9,if_pos ⟨rfl,h9⟩]
       ·rw [if_neg h9,if_neg (fun h=>h9 h.2),if_neg (Nat.lt_irrefl _),←HVE.out]
      ·rw [if_neg h10,if_pos ⟨rfl,by omega,by omega⟩]
     ·rw [if_neg h18,if_pos ⟨rfl,by omega,by omega⟩]
    ·rw [if_neg (fun h=>hjk h.1),if_neg (fun h=>hjk h.1),if_neg (fun h=>hjk h.1)];by_cases h2:j<k
     ·rw [if_pos h2,if_pos (by omega),if_neg hjk]
     ·rw [if_neg h2,if_neg (by omega)]
   ·dsimp only;by_cases hjk:j=k
    ·subst hjk;rw [if_pos rfl];have h0:=HVR.out;exact ⟨⟨h0.kind,h0.a,h0.b,h0.cc,h0.flag,h0.atT,h0.atI,h0.pT,h0.pI,Jg.far R1.out hU6 (fun b o hA hk=>absurd (E1.out b o hA) (by omega)),R2.out.far E2.out hU6 hSg,R3.out.far E3.out hU6 hSg⟩,E1.out,E2.out,E3.out⟩
    ·rw [if_neg hjk];exact ⟨((hd.out j (by omega)).1.fr U3.out.fr0).far (hd.out j (by omega)).2 hU6 hSg,(hd.out j (by omega)).2⟩
  ·obtain rfl:k=m:=by omega
   have HF:=qq (show RdLC N wr ⟨some ⟨g,0,none⟩,k,cap⟩ Vn (shLCs cs) from ⟨by
    have h1:=(hr.out.congr (G:=fun j i=>(Vn j).cells.getD i undef) fun j i hj hi=>by rw [if_pos hj]).rd hb.out rfl HMC.out N;rw [HLS.out];exact h1,fun j hj=>by
    rw [HLS.out] at hj
    rw [HGD.out j hj];exact (hd.out j hj).1⟩)
   clear hr hb hd;go_wp2;go_ret;exact ⟨⟨some ⟨g,0,none⟩,k,cap⟩,Vn,rfl,HF.out,hu.out⟩
end
end Go.Proofs.YtmagnkjodjmojaaGreat
