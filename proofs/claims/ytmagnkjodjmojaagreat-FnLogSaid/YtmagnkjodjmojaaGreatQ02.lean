/- A part of the proof of FnLog: laws and walks, with their conditions written at each. -/
import Derived.Maps.AppendAt
import Derived.Deep.AppendLies
import Derived.Deep.Upon
import Derived.Lib.ConvBytes
import Derived.Laws.BytesArg
import Derived.Test.YtmagnkjodjmojaaGreatQ01
set_option maxRecDepth 20000
set_option maxHeartbeats 4000000
set_option linter.all false
namespace Go.Proofs.YtmagnkjodjmojaaGreat
open Go.RowKit
section
variable {P:Program}
theorem run_app_src (w:World) (base:Nat) (t ty e:TypeId) (i:TypeInfo) (z:Value) (size bytes:Nat) (ht:P.underlying t=some (.slice e)) (hi:P.info? e=some i) (hz:i.zero=some z)
  (hsize:i.size=size) (hby:i.bytes=bytes) (hzs:z.cells.size=size) (hsz:0<size)
  (v:Value) (n:Nat) (xs:List Value) (hown:w.ownsRow base e size v n xs)
  (A:Option Addr) (m c:Nat) (news:List Value) (hl:news.length=m*size) (hr:0<m→∃ad,A=some ad∧∀j u,news[j]? =some u→w.cell? (ad.add j)=some u) (h1:∀u∈news,u.oneCell'=true)
  (h63:n+m≤maxLen) (hbytes:(n+m)*bytes≤140737488355328) (hbase:base≤w.heap.size):
  ∃v' w',(Builtin.append_ #[t,t] ty #[v,.slice A m c]).run P w=.ok v' w'∧w'.ownsRow base e size v' (n+m) (xs++news)∧w.grownBy w' v.ownBlock∧
   (v'.ownBlock=v.ownBlock∨v'.ownBlock=some w.heap.size)∧(m=0→v'=v)∧(0<m→v'≠ .slice none 0 0):=by
 rcases Nat.eq_zero_or_pos m with h0|h0
 ·subst h0;have hn:news=[]:=List.eq_nil_of_length_eq_zero (by simpa using hl);subst hn;have hS:Src P i.size t (.slice A 0 c) 0 [] w:=by
   rcases A with _|ad
   ·exact Src.ofNil w ht c
   ·exact Src.ofSlice w ht ad 0 c [] (by simp) (by intro j u h;simp at h) (by intro u h;cases h)
  have hv:∃a cc,v=.slice a n cc∧n≤cc:=by
   rcases hown.2 with ⟨rfl,rfl⟩|⟨g,cap,cur,rfl,_,_,hnc,_⟩
   ·exact ⟨none,0,rfl,Nat.le_refl _⟩
   ·exact ⟨_,cap,rfl,hnc⟩
  obtain ⟨a,cc,rfl,hcc⟩:=hv;exact ⟨_,w,run_append_nothing w t t ty e i ht hi a n cc hcc _ hS,by simpa using hown,World.grownBy.refl w _,.inl rfl,fun _=>rfl,fun h=>absurd h (by omega)⟩
 ·obtain ⟨ad,rfl,hc⟩:=hr h0;obtain ⟨v',w',hrun,h2,h3,h4,h5⟩:=run_append_own_at (P:=P) w base t ty e i z size bytes ht hi hz hsize hby hzs hsz v n xs hown ad m c news hl hc h1 h63 hbytes hbase;exact ⟨v',w',hrun,h2,h3,h5,fun h=>by omega,fun h he=>by have:=h4.1 he;omega⟩
theorem app_src {ops:Array Oper} {rest:List Oper} {o:Oper} {a:Act} {Q:Exit→Act→World→Prop} {w:World} (hgd:o.guard=none) (s x:Operand) (t:TypeId)
  (ho:o.op=.call {callee:=.builtin .append,args:=#[s,x],argTypes:=#[t,t]})
  (base:Nat) (e:TypeId) (z:Value) (size bytes:Nat) (ht:P.underlying t=some (.slice e)) (hinf:(P.info? e).map (fun i=>(i.zero,i.size,i.bytes))=some (some z,size,bytes)) (hzs:z.cells.size=size) (hsz:0<size)
  (v:Value) (n:Nat) (xs:List Value) (hs:a.eval s=v) (hown:w.ownsRow base e size v n xs)
  (A:Option Addr) (m c:Nat) (news:List Value) (hx:a.eval x=.slice A m c) (hl:news.length=m*size) (hr:0<m→∃ad,A=some ad∧∀j u,news[j]? =some u→w.cell? (ad.add j)=some u) (h1:∀u∈news,u.oneCell'=true)
  (h63:n+m≤maxLen) (hbytes:(n+m)*bytes≤140737488355328) (hbase:base≤w.heap.size)
  (h:∀v' w',w'.ownsRow base e size v' (n+m) (xs++news)→w.grownBy w' v.ownBlock→(v'.ownBlock=v.ownBlock∨v'.ownBlock=some w.heap.size)→(m=0→v'=v)→(0<m→v'≠ .slice none 0 0)→wpList P ops Q rest (a.put o.dst v') w'):
  wpList P ops Q (o::rest) a w:=by
 refine wpList_plain hgd fun K hK=>?_;obtain ⟨i,hi,hz,hsize,hby⟩:=info_parts hinf;obtain ⟨v',w',hr,h2,h3,h4,h5,h6⟩:=run_app_src (P:=P) w base t o.type e i z size bytes ht hi hz hsize hby hzs hsz v n xs hown A m c news hl hr h1 h63 hbytes hbase;unfold Oper.wp execOp;simp only [ho,resolve,invoke,builtin,Sem.run_bind,Sem.run_pure,Result.andThen_ok,List.map_toArray,List.map_cons,List.map_nil,hs,hx,hr];exact hK _ _ (h v' w' h2 h3 h4 h5 h6)
theorem app_one {ops:Array Oper} {rest:List Oper} {o:Oper} {a:Act} {Q:Exit→Act→World→Prop} {W:World} (hgd:o.guard=none) (s x:Operand) (t:TypeId)
  (ho:o.op=.call {callee:=.builtin .append,args:=#[s,x],argTypes:=#[t,t]})
  (base:Nat) (e:TypeId) (z:Value) (size bytes:Nat) (ht:P.underlying t=some (.slice e)) (hinf:(P.info? e).map (fun i=>(i.zero,i.size,i.bytes))=some (some z,size,bytes)) (hzs:z.cells.size=size) (hsz:0<size)
  (v:Value) (n:Nat) (xs:List Value) (hs:a.eval s=v) (hown:W.ownsRow base e size v n xs)
  (cs:Array Value) (hx:a.eval x=.slice (some ⟨W.heap.size,0,none⟩) 1 1) (hl:cs.size=size) (h1:∀u∈cs.toList,u.oneCell'=true)
  (h63:n+1≤maxLen) (hbytes:(n+1)*bytes≤140737488355328) (hbase:base≤W.heap.size)
  (h:∀v' w',w'.ownsRow base e size v' (n+1) (xs++cs.toList)→Upd (fun k=>v.ownBlock=some k) W w'→(v'.ownBlock=v.ownBlock∨∃k,v'.ownBlock=some k∧W.heap.size≤k)→wpList P ops Q rest (a.put o.dst v') w'):
  wpList P ops Q (o::rest) a (W.alloc (.cells cs e)):=by
 refine app_src hgd s x t ho base e z size bytes ht hinf hzs hsz v n xs hs (hown.alloc _) _ 1 1 cs.toList hx (by simp [hl]) (fun _=>⟨_,rfl,World.news_of_block (heap_alloc_new W _)⟩) h1 h63 hbytes (by simp;omega) ?_;intro v' w' h2 h3 h4 _ _;refine h v' w' h2 ?_ ?_
 ·exact ((Upd.refl _ W).alloc _).grown h3 (fun k hk=>.inl hk)
 ·rcases h4 with h4|h4
  ·exact .inl h4
  ·exact .inr ⟨_,h4,by simp⟩
end
theorem upd_setRow {w:World} {g:Nat} {cs:Array Value}:Upd (fun k=>k=g) w (w.setRow g cs):=
 ⟨rfl,rfl,rfl,by simp [World.setRow],fun k _ hn=>setRow_other w g k cs hn⟩
section
variable {P:Program} {ops:Array Oper} {rest:List Oper} {o:Oper} {a:Act} {w:World} {Q:Exit→Act→World→Prop}
theorem Jk (hgd:o.guard=none) (ty:TypeId) (x y:Operand) (ho:o.op=.store ty x y) (g:Nat) (cells:Array Value) (hx:a.eval x=.pointer (some ⟨g,0,none⟩)) (hy:a.eval y=.agg cells)
  (t:TypeId) (old:Array Value) (hg:Blk w g t old) (hi:(P.info? ty).map (·.size)=some cells.size) (hold:old.size=cells.size) (h1:cells.all (·.oneCell')=true)
  (h:∀w',Blk w' g t cells→Upd (fun k=>k=g) w w'→wpList P ops Q rest (a.put o.dst undef) w'):wpList P ops Q (o::rest) a w:=
 wpList_store_row hgd ty x y ho g cells hx hy t old hg hi hold h1 (h _ (setRow_heap w g _ _ t _ hg) upd_setRow)
theorem step_store_blk {K:Act→World→Prop} {E:Prop} (hgd:o.guard=none) (ty:TypeId) (x y:Operand) (ho:o.op=.store ty x y) (g:Nat) (cells:Array Value) (hx:a.eval x=.pointer (some ⟨g,0,none⟩)) (hy:a.eval y=.agg cells)
  (t:TypeId) (old:Array Value) (hg:Blk w g t old) (hi:(P.info? ty).map (·.size)=some cells.size) (hold:old.size=cells.size) (h1:cells.all (·.oneCell')=true)
  (h:∀w',Blk w' g t cells→Upd (fun k=>k=g) w w'→K (a.put o.dst undef) w'):if Region.wanted o (yielded ops a.tmps)=true then Oper.wp P o a w K Q else E:=by
 have hw:Region.wanted o (yielded ops a.tmps)=true:=by simp [Region.wanted,hgd]
 rw [if_pos hw];exact wp_store_row ty x y ho g cells hx hy t old hg hi hold h1 (h _ (setRow_heap w g _ _ t _ hg) upd_setRow)
theorem Jm (hgd:o.guard=none) (ty:TypeId) (x:Operand) (ho:o.op=.load ty x) (g:Nat) (cs:Array Value) (hx:a.eval x=.pointer (some ⟨g,0,none⟩))
  (t:TypeId) (d:TypeDesc) (hg:Blk w g t cs) (hu:P.underlying ty=some d) (hd:(match d with| .struct _| .array _ _=>true|_=>false)=true) (hi:(P.info? ty).map (·.size)=some cs.size)
  (h:wpList P ops Q rest (a.put o.dst (.agg cs)) w):wpList P ops Q (o::rest) a w:=wpList_load_row hgd ty x ho g hx t cs _ d hg hu hd hi h
theorem step_load_blk {K:Act→World→Prop} {E:Prop} (hgd:o.guard=none) (ty:TypeId) (x:Operand) (ho:o.op=.load ty x) (g:Nat) (cs:Array Value) (hx:a.eval x=.pointer (some ⟨g,0,none⟩))
  (t:TypeId) (d:TypeDesc) (hg:Blk w g t cs) (hu:P.underlying ty=some d) (hd:(match d with| .struct _| .array _ _=>true|_=>false)=true) (hi:(P.info? ty).map (·.size)=some cs.size)
  (h:K (a.put o.dst (.agg cs)) w):if Region.wanted o (yielded ops a.tmps)=true then Oper.wp P o a w K Q else E:=by
 have hw:Region.wanted o (yielded ops a.tmps)=true:=by simp [Region.wanted,hgd]
 rw [if_pos hw];exact wp_load_row ty x ho g hx t cs _ d hg hu hd hi h
end
theorem ret_blk {P:Program} {fn:Func} {R:Ending→World→Prop} {a:Act} {w:World} {p:Tmp} {ty:TypeId} (h:fn.results= #[.cell p ty]) (g:Nat) (t:TypeId) (cs:Array Value) (d:TypeDesc)
  (hp:a.tmps.getD p undef=.pointer (some ⟨g,0,none⟩)) (hg:Blk w g t cs) (hu:P.underlying ty=some d) (hd:(match d with| .struct _| .array _ _=>true|_=>false)=true) (hi:(P.info? ty).map (·.size)=some cs.size)
  (hdf:a.defers=[]) (hR:R (.returned (.agg cs)) w):bodyPost P fn R .ret a w:=
 bodyPost_ret (results_cell_row h a.tmps w g t cs _ d hp hg hu hd hi) hdf hR
theorem own_upd {S:Nat→Prop} {w w':World} {base:Nat} {e:TypeId} {size:Nat} {v:Value} {n:Nat} {xs:List Value} (h:w.ownsRow base e size v n xs) (hu:Upd S w w') (hS:∀k,S k→v.ownBlock≠some k):w'.ownsRow base e size v n xs:=by
 obtain ⟨h0,h1⟩:=h;refine ⟨h0,h1.imp id ?_⟩;rintro ⟨g,cap,cur,rfl,hb,hg,h2⟩;exact ⟨g,cap,cur,rfl,hb,(hu.keep g ((Array.getElem?_eq_some_iff.1 hg).1) (fun hs=>hS g hs rfl)).trans hg,h2⟩
theorem own_mutb {w:World} {base:Nat} {e:TypeId} {size:Nat} {v:Value} {n:Nat} {xs:List Value} (h:w.ownsRow base e size v n xs) (hi:immT e=false) {N:Nat} (hN:N≤base):∀k,v.ownBlock=some k→Mutb N w k:=by
 intro k hk;obtain ⟨h0,⟨rfl,rfl⟩|⟨g,cap,cur,rfl,hb,hg,_⟩⟩:=h
 ·cases hk
 ·injection hk with hk;subst hk
  exact ⟨Nat.le_trans hN hb,.inr ⟨e,⟨cur,_,hg⟩,hi⟩⟩
theorem own_row {w:World} {base:Nat} {e:TypeId} {size:Nat} {v:Value} {n:Nat} {xs:List Value} (h:w.ownsRow base e size v n xs) (hi:immT e=true) (N:Nat):
  ∃s:SlV,v=.slice s.A s.n s.c∧s.n=n∧Jg N w size s n (fun j i=>xs.getD (j*size+i) undef)∧(s.A=none→s=⟨none,0,0⟩)∧(∀b o,s.A=some ⟨b,o,none⟩→base≤b):=by
 obtain ⟨h0,⟨rfl,rfl⟩|⟨g,cap,cur,rfl,hb,hg,hnc,hcm,hcs,hx⟩⟩:=h
 ·exact ⟨⟨none,0,0⟩,rfl,rfl,Jg.nil none,fun _=>rfl,fun b o h=>(by cases h)⟩
 ·refine ⟨⟨some ⟨g,0,none⟩,n,cap⟩,rfl,rfl,⟨rfl,hnc,fun _=>⟨g,0,rfl,⟨(Array.getElem?_eq_some_iff.1 hg).1,.inr ⟨e,⟨_,_,hg⟩,hi⟩⟩,fun j i hj hi'=>?_⟩⟩,fun h=>(by cases h),fun b o h=>(by cases h;exact hb)⟩;have hlt:j*size+i<n*size:=by
   have:(j+1)*size≤n*size:=Nat.mul_le_mul_right _ hj
   rw [Nat.add_mul] at this;omega
  rw [cell_of_row w g _ cur e (0,0) hg,Nat.zero_add];have hxl:xs.length=n*size:=h0;have e1:xs[j*size+i]? =cur[j*size+i]?:=by
   rw [←hx,List.getElem?_take,if_pos hlt];simp
  rw [←e1,List.getD_eq_getElem?_getD,List.getElem?_eq_getElem (by omega)];simp
theorem Jg.congr {N:Nat} {w:World} {sz:Nat} {s:SlV} {len:Nat} {f g:Nat→Nat→Value} (h:Jg N w sz s len f) (hfg:∀j i,j<len→i<sz→f j i=g j i):Jg N w sz s len g:=
 ⟨h.len,h.cap,fun hn=>by
  obtain ⟨b,o,ha,hi,hc⟩:=h.at_ hn
  exact ⟨b,o,ha,hi,fun j i hj hi'=>by rw [hc j i hj hi',hfg j i (by have:=h.len;omega) hi']⟩⟩
def entCells (e:Ent):List Value:=[.int .u64 e.term,.int .u64 e.index,.int .i64 e.kind,.string e.data]
def entRow (es:List Ent):List Value:=es.flatMap entCells
theorem entRow_nil:entRow []=[]:=rfl
theorem entRow_snoc (es:List Ent) (e:Ent):entRow (es++[e])=entRow es++entCells e:=by simp [entRow]
theorem entRow_append (es fs:List Ent):entRow (es++fs)=entRow es++entRow fs:=by simp [entRow]
theorem entRow_length (es:List Ent):(entRow es).length=es.length*4:=by
 induction es with
 |nil=>rfl
 |cons e es ih=>simp only [entRow,List.flatMap_cons,List.length_append,List.length_cons] at*;rw [ih];simp [entCells];omega
theorem entRow_one (es:List Ent):∀u∈entRow es,u.oneCell'=true:=by
 intro u hu;simp only [entRow,List.mem_flatMap,entCells] at hu;obtain ⟨e,_,he⟩:=hu;simp at he;rcases he with rfl|rfl|rfl|rfl<;>rfl
theorem entRow_at (es:List Ent):∀(j i:Nat),j<es.length→i<4→(entRow es).getD (j*4+i) undef=entCell (es.getD j default) i:=by
 induction es with
 |nil=>intro j i h;simp at h
 |cons e es ih=>
  intro j i hj hi;have hsplit:entRow (e::es)=entCells e++entRow es:=rfl;rw [hsplit];rcases j with _|j
  ·simp only [Nat.zero_mul,Nat.zero_add,List.getD_cons_zero];match i,hi with
   |0,_=>rfl
   |1,_=>rfl
   |2,_=>rfl
   |3,_=>rfl
  ·have:(j+1)*4+i=4+(j*4+i):=by omega
   rw [this,List.getD_cons_succ,←ih j i (by simpa using hj) hi];rw [List.getD_eq_getElem?_getD,List.getD_eq_getElem?_getD,List.getElem?_append_right (by simp [entCells])];congr 2;simp [entCells]
theorem own_ents {w:World} {base:Nat} {v:Value} {es:List Ent} {n:Nat} (h:w.ownsRow base 104 4 v n (entRow es)) (N:Nat):
  ∃s:SlV,v=.slice s.A s.n s.c∧s.n=es.length∧Jh N w s es∧(s.A=none→s=⟨none,0,0⟩):=by
 have hn:n=es.length:=by have:=h.1;rw [entRow_length] at this;omega
 subst hn;obtain ⟨s,hv,hn,hr,h1,_⟩:=own_row h rfl N;exact ⟨s,hv,hn,hr.congr fun j i hj hi=>entRow_at es j i hj hi,h1⟩
def numRow (xs:List Int):List Value:=xs.map fun x=>.int .u64 x
theorem numRow_length (xs:List Int):(numRow xs).length=xs.length:=by simp [numRow]
theorem numRow_one (xs:List Int):∀u∈numRow xs,u.oneCell'=true:=by
 intro u hu;simp only [numRow,List.mem_map] at hu;obtain ⟨x,_,rfl⟩:=hu;rfl
theorem numRow_at (xs:List Int) (j:Nat) (hj:j<xs.length):(numRow xs).getD j undef=.int .u64 (xs.getD j 0):=by
 simp [numRow,List.getD_eq_getElem?_getD,List.getElem?_eq_getElem hj]
theorem own_nums {w:World} {base:Nat} {v:Value} {xs:List Int} {n:Nat} (h:w.ownsRow base 23 1 v n (numRow xs)) (N:Nat):
  ∃s:SlV,v=.slice s.A s.n s.c∧s.n=xs.length∧Jz N w s xs∧(s.A=none→s=⟨none,0,0⟩):=by
 have hn:n=xs.length:=by have:=h.1;rw [numRow_length] at this;omega
 subst hn;obtain ⟨s,hv,hn,hr,h1,_⟩:=own_row h rfl N
 exact ⟨s,hv,hn,hr.congr fun j i hj hi=>by
  have:i=0:=by omega
  subst this
  simpa using numRow_at xs j hj,h1⟩
theorem Jz.src {N:Nat} {w:World} {s:SlV} {xs:List Int} (h:Jz N w s xs):0<s.n→∃ad,s.A=some ad∧∀j u,(numRow xs)[j]? =some u→w.cell? (ad.add j)=some u:=by
 intro hn;obtain ⟨b,o,ha,_,hc⟩:=h.at_ hn;refine ⟨_,ha,fun j u hu=>?_⟩;have hj:j<xs.length:=by
  rcases Nat.lt_or_ge j xs.length with h'|h'
  ·exact h'
  ·rw [List.getElem?_eq_none (by rw [numRow_length];exact h')] at hu;cases hu
 have h1:=hc j 0 (by have:=h.len;omega) (by omega);have h2:=numRow_at xs j hj;rw [List.getD_eq_getElem?_getD,hu] at h2;simp only [Option.getD_some] at h2;rw [h2];rw [Addr.add_lit];simpa using h1
theorem Jh.src {N:Nat} {w:World} {s:SlV} {es:List Ent} (h:Jh N w s es):0<s.n→∃ad,s.A=some ad∧∀j u,(entRow es)[j]? =some u→w.cell? (ad.add j)=some u:=by
 intro hn;obtain ⟨b,o,ha,_,hc⟩:=h.at_ hn;refine ⟨_,ha,fun j u hu=>?_⟩;have hj:j<es.length*4:=by
  rcases Nat.lt_or_ge j (es.length*4) with h'|h'
  ·exact h'
  ·rw [List.getElem?_eq_none (by rw [entRow_length];exact h')] at hu;cases hu
 have h1:=hc (j / 4) (j % 4) (by have:=h.len;omega) (by omega);have h2:=entRow_at es (j / 4) (j % 4) (by omega) (by omega);rw [show j / 4*4+j % 4=j from by omega] at h1 h2;rw [List.getD_eq_getElem?_getD,hu] at h2;simp only [Option.getD_some] at h2;rw [h2,Addr.add_lit];exact h1
theorem Jh.at4 {N:Nat} {w:World} {s:SlV} {es:List Ent} {k:Nat} (h:Jh N w s es) (hk:k<s.n):∃b o,s.A=some ⟨b,o,none⟩∧Imm N w b∧
  w.cell? ⟨b,o+k*4,none⟩=some (.int .u64 (es.getD k default).term)∧w.cell? ⟨b,o+k*4+1,none⟩=some (.int .u64 (es.getD k default).index)∧
  w.cell? ⟨b,o+k*4+2,none⟩=some (.int .i64 (es.getD k default).kind)∧w.cell? ⟨b,o+k*4+3,none⟩=some (.string (es.getD k default).data):=by
 obtain ⟨b,o,hA,hi,hc⟩:=h.at_ (by omega);exact ⟨b,o,hA,hi,hc k 0 hk (by omega),hc k 1 hk (by omega),hc k 2 hk (by omega),hc k 3 hk (by omega)⟩
theorem Jz.at1 {N:Nat} {w:World} {s:SlV} {xs:List Int} {k:Nat} (h:Jz N w s xs) (hk:k<s.n):∃b o,s.A=some ⟨b,o,none⟩∧Imm N w b∧w.cell? ⟨b,o+k,none⟩=some (.int .u64 (xs.getD k 0)):=by
 obtain ⟨b,o,hA,hi,hc⟩:=h.at_ (by omega);exact ⟨b,o,hA,hi,by simpa using hc k 0 hk (by omega)⟩
theorem oneCell_one {v:Value} (h:v.oneCell'=true):∀u∈(#[v]:Array Value).toList,u.oneCell'=true:=by
 intro u hu;simp at hu;subst hu;exact h
def ptrRow (ps:List Nat):List Value:=ps.map fun p=>.pointer (some ⟨p,0,none⟩)
theorem Jv (ps:List Nat):(ptrRow ps).length=ps.length:=by simp [ptrRow]
theorem ptrRow_snoc (ps:List Nat) (p:Nat):ptrRow (ps++[p])=ptrRow ps++[.pointer (some ⟨p,0,none⟩)]:=by simp [ptrRow]
theorem ptrRow_at (ps:List Nat) (j:Nat) (hj:j<ps.length):(ptrRow ps)[j]? =some (.pointer (some ⟨ps.getD j 0,0,none⟩)):=by
 simp [ptrRow,List.getElem?_eq_getElem hj]
theorem getD_snoc_lt {α:Type} {l:List α} {x d:α} {j:Nat} (h:j<l.length):(l++[x]).getD j d=l.getD j d:=by
 simp [List.getD_eq_getElem?_getD,List.getElem?_append,h]
theorem getD_snoc_eq {α:Type} {l:List α} {x d:α} {j:Nat} (h:j=l.length):(l++[x]).getD j d=x:=by
 subst h;simp [List.getD_eq_getElem?_getD]
theorem own_parr {w:World} {base:Nat} {v:Value} {ps:List Nat} {n:Nat} {es:List Ent} {N:Nat} (h:w.ownsRow base 122 1 v n (ptrRow ps)) (hN:N≤base) (hl:es.length=n) (d:Nat)
  (he:∀j,j<n→Kg N w (ps.getD j 0) (es.getD j default) (d≤j)):
  ∃s:SlV,v=.slice s.A s.n s.c∧PArr N w d s es∧(s.A=none→s=⟨none,0,0⟩)∧(∀b o,s.A=some ⟨b,o,none⟩→base≤b):=by
 obtain ⟨h0,⟨rfl,rfl⟩|⟨g,cap,cur,rfl,hb,hg,hnc,hcm,hcs,hx⟩⟩:=h
 ·have:es=[]:=List.eq_nil_of_length_eq_zero hl
  subst this;exact ⟨⟨none,0,0⟩,rfl,PArr.nil N w d,fun _=>rfl,fun b o h=>(by cases h)⟩
 ·refine ⟨⟨some ⟨g,0,none⟩,n,cap⟩,rfl,⟨hl,hnc,fun _=>⟨g,0,cur,rfl,hg,(by simp only;omega),(by omega),fun j hj=>⟨ps.getD j 0,?_,he j hj⟩⟩⟩,fun h=>(by cases h),fun b o h=>(by cases h;exact hb)⟩;have hl2:ps.length=n:=by rw [Jv] at h0;omega
  have h2:=ptrRow_at ps j (by simp only at hj;omega);rw [←hx,List.getElem?_take,if_pos (by simp only at hj;omega)] at h2;simpa using h2
theorem inf23:(Tryz.prog.info? 23).map (fun i=>(i.zero,i.size,i.bytes))=some (some (.int .u64 0),1,8):=by kernel_rfl
theorem inf122:(Tryz.prog.info? 122).map (fun i=>(i.zero,i.size,i.bytes))=some (some (.pointer none),1,8):=by kernel_rfl
theorem inf104:(Tryz.prog.info? 104).map (fun i=>(i.zero,i.size,i.bytes))=some (some (.agg #[.int .u64 0,.int .u64 0,.int .i64 0,.string ⟨#[]⟩]),4,40):=by kernel_rfl
theorem upd_bytes (w:World) (e:TypeId) (s:ByteArray):Upd No w (Lib.bytesWorld w e s):=
 ⟨rfl,rfl,rfl,by rw [Lib.bytesWorld_size];omega,fun k hk _=>Lib.bytesWorld_at_old w e s k hk⟩
theorem rd_bytes (N:Nat) (w:World) (s:ByteArray) (hs:s.size≠0):RdBytes N (Lib.bytesWorld w 5 s) ⟨some ⟨w.heap.size,0,none⟩,s.size,grownCap w s.size 0 5⟩ s:=
 ⟨⟨rfl,grownCap_ge w s.size 0 5,fun _=>⟨_,0,rfl,⟨by rw [Lib.bytesWorld_size];omega,.inr ⟨5,⟨_,_,Lib.bytesWorld_at_new w 5 s⟩,rfl⟩⟩,fun j i hj hi=>by
  have:i=0:=by omega
  subst this;have:=Lib.bytesWorld_cell w 5 s j hj
  simpa using this⟩⟩,fun h=>absurd h hs⟩
theorem strOfNums_bytes (d:ByteArray):strOfNums (d.data.toList.map fun b=>(b.toNat:Int))=d:=by
 cases d with
 |mk a=>
  simp [strOfNums,List.map_map,Function.comp_def]
theorem conv_bytes {N:Nat} {w:World} {s:SlV} {d:ByteArray} (h:RdBytes N w s d):(convert 125 9 (.slice s.A s.n s.c)).run Tryz.prog w=.ok (.string d) w:=by
 obtain ⟨h,h0⟩:=h;have hl:=h.len;rcases Nat.eq_zero_or_pos s.n with hn|hn
 ·rw [h0 hn,hn,run_convert_bytes_nil w 125 5 Tryz.underlying125 Tryz.underlying5 0 s.c 9 Tryz.underlying9];congr 2;cases d with
  |mk a=>
   have:a.size=0:=by rw [hn] at hl;exact hl
   simp [ByteArray.empty,ByteArray.emptyWithCapacity,Array.eq_empty_of_size_eq_zero this];rfl
 ·obtain ⟨b,o,hA,_,hc⟩:=h.at_ hn;have hlen:(d.data.toList.map fun b=>(b.toNat:Int)).length=s.n:=by rw [List.length_map,Array.length_toList];exact hl
  rw [hA,run_convert_bytes_arg w 125 5 Tryz.underlying125 Tryz.underlying5 b o s.n s.c _ hlen (fun i hi=>?_) 9 Tryz.underlying9,strOfNums_bytes];have:=hc i 0 hi (by omega);simp only [Nat.mul_one,Nat.add_zero] at this;rw [this];have hi':i<d.data.toList.length:=by rw [Array.length_toList];show i<d.size;omega
  simp [List.getD_eq_getElem?_getD,List.getElem?_eq_getElem hi']
structure BytesRet (N:Nat) (d:ByteArray) (w:World) (e:Ending) (w':World) (s:SlV):Prop where
 he:e=.returned (.slice s.A s.n s.c)
 rd:RdBytes N w' s d
 nil1:s.A=none ↔ d.size=0
 nil2:s.A=none→s=⟨none,0,0⟩
 upd:Upd No w w'
theorem bytesOf (N:Nat) (d:ByteArray) (w:World):Calls Tryz.prog 127 #[.string d] w fun e w'=>∃s,BytesRet N d w e w' s:=by
 by_cases h:d.toList=[]
 ·have hd:d.size=0:=by have:=congrArg List.length h;rw [ByteArray.toList_eq] at this;simpa using this
  have h2:d.toList.isEmpty=true:=by simp [h]
  clear h;go_enter Tryz.func127,Tryz.ntmps127;go_wp2;go_ret;exact ⟨⟨none,0,0⟩,rfl,⟨⟨hd,Nat.le_refl _,fun h=>absurd h (by simp)⟩,fun _=>rfl⟩,by simp [hd],fun _=>rfl,Upd.refl _ _⟩
 ·have hd:d.size≠0:=fun h0=>h (List.eq_nil_of_length_eq_zero (by rw [ByteArray.toList_eq,Array.length_toList];exact h0));have h2:d.toList.isEmpty=false:=by simpa using h
  clear h;have hk:=Lib.run_convert_string_bytes (P:=Tryz.prog) w 9 125 5 d Tryz.underlying9 Tryz.underlying125 Tryz.underlying5;go_enter Tryz.func127,Tryz.ntmps127;go_wp2;go_ret;exact ⟨_,rfl,rd_bytes N w d hd,by simp [hd],fun h=>(by cases h),upd_bytes w 5 d⟩
def Ent.cells (e:Ent):Array Value:=#[.int .u64 e.term,.int .u64 e.index,.int .i64 e.kind,.string e.data]
theorem entryTo (N:Nat) (e:Ent) (w:World) (hk:e.ok):
  Calls Tryz.prog 141 #[.agg #[.int .u64 e.term,.int .u64 e.index,.int .i64 e.kind,.string e.data]] w fun r w'=>∃p,r=.returned (.pointer (some ⟨p,0,none⟩))∧Kg N w' p e True∧Upd No w w':=by
 have k0:=hk.k0;have k2:=hk.k2;have hout:∀(w1:World) (s:SlV) (ty:Option Addr),Upd No (((w.alloc (.cells #[.int .u64 e.term,.int .u64 e.index,.int .i64 e.kind,.string e.data] 104)).alloc (.cells #[.int .u64 e.term] 23)).alloc (.cells #[.int .u64 e.index] 23)) w1→
   Blk w1 (w.heap.size+1) 23 #[.int .u64 e.term]∧Blk w1 (w.heap.size+1+1) 23 #[.int .u64 e.index]∧Upd No w w1∧w1.cell? ⟨w.heap.size,2,none⟩=some (.int .i64 e.kind)∧w.heap.size<w1.heap.size:=by
  intro w1 s ty h6;have hz:=h6.size;simp only [World.size_alloc] at hz;exact ⟨((Blk.new_ (by simp)).alloc _).upd h6 (fun h=>h),(Blk.new_ (by simp)).upd h6 (fun h=>h),(((Upd.refl No w).alloc _).alloc _ |>.alloc _).no h6,h6.cell (by simp [go_sem]) (fun h=>h),by omega⟩
 have HO:=qq hout;clear hout;by_cases h:e.kind=0
 ·have h2:(e.kind !=0)=false:=by simp [h]
  have H:=qq h;clear h hk;go_enter Tryz.func141,Tryz.ntmps141;go_wp2_with (go_at_call 127;refine (bytesOf N _ _).mono ?_;rintro r w1 ⟨s,rfl,h3,h4,h5,h6⟩;obtain ⟨q1,q2,q3,q4,q5⟩:=HO.out w1 s none h6)
  go_ret;refine ⟨_,rfl,⟨_,_,_,_,Blk.new _ _ _,.inr ⟨_,rfl,q1.alloc _⟩,.inr ⟨_,rfl,q2.alloc _⟩,.inl ⟨rfl,H.out⟩,h3.fr ((Upd.refl No _).alloc _).fr0,fun _=>⟨⟨_,rfl⟩,⟨_,rfl⟩,by simp [H.out],h4,h5⟩⟩,q3.alloc _⟩
 ·have h2:(e.kind !=0)=true:=by simp [h]
  have H:=qq h;clear h hk;go_enter Tryz.func141,Tryz.ntmps141;go_wp2_with (go_at_call 127;refine (bytesOf N _ _).mono ?_;rintro r w1 ⟨s,rfl,h3,h4,h5,h6⟩;obtain ⟨q1,q2,q3,q4,q5⟩:=HO.out w1 s none h6)
  go_ret;exact ⟨_,rfl,⟨_,_,_,_,(Blk.new _ _ _).alloc _,.inr ⟨_,rfl,(q1.alloc _).alloc _⟩,.inr ⟨_,rfl,(q2.alloc _).alloc _⟩,.inr ⟨_,rfl,Blk.new_ (by simp)⟩,h3.fr (((Upd.refl No _).alloc _).alloc _).fr0,fun _=>⟨⟨_,rfl⟩,⟨_,rfl⟩,by simp [H.out],h4,h5⟩⟩,(q3.alloc _).alloc _⟩
def EntriesToRel (N:Nat) (s:SlV) (es:List Ent) (w:World) (v i:Value) (wr:World):Prop:=
 ∃(k:Nat) (ps:List Nat),k≤s.n∧i=.int .i64 (k:Nat)∧wr.ownsRow w.heap.size 122 1 v k (ptrRow ps)∧Upd No w wr∧∀j,j<k→Kg N wr (ps.getD j 0) (es.getD j default) True
theorem entriesTo (N:Nat) (s:SlV) (es:List Ent) (w:World) (h:Jh N w s es) (hok:∀j,j<s.n→(es.getD j default).ok) (hN:N≤w.heap.size) (hlen:s.n≤1000000):
  Calls Tryz.prog 76 #[.slice s.A s.n s.c] w fun r w'=>∃t:SlV,r=.returned (.slice t.A t.n t.c)∧PArr N w' 0 t es∧Upd No w w'∧(∀b o,t.A=some ⟨b,o,none⟩→w.heap.size≤b):=by
 have H:=qq h;clear h;go_enter Tryz.func76,Tryz.ntmps76;go_wp2;go_loopw [3,8] (EntriesToRel N s es w) (fun _ i _=>s.n - (intOf i).toNat)
 case atStart=>exact ⟨0,[],Nat.zero_le _,rfl,World.ownsRow_nil _ _ _ _,Upd.refl _ _,fun j hj=>by omega⟩
 case round=>
  obtain ⟨k,ps,hk,rfl,hown,hu,hps⟩:=hrel;have HP:=qq hps;clear hps;by_cases hlt:k<s.n
  ·obtain ⟨b,o,hA,hi,c0,c1,c2,c3⟩:=Jh.at4 (Jg.fr H.out hu.fr0) hlt;have hz:w.heap.size≤wr.heap.size:=hu.size;have hek:=hok k hlt;generalize hE:es.getD k default=e at*;have HE:=qq hE;clear hE;go_wp2_with fail
   refine (entryTo N e _ hek).mono ?_;rintro r w1 ⟨p,rfl,hp,hu1⟩;have ho1:=own_upd (hown.alloc _) hu1 (fun _ h=>h.elim);have hz1:w.heap.size≤w1.heap.size:=by have:=hu1.size;simp at this;omega
   go_wp2_with (at_builtin;refine app_one rfl (.tmp 12) (.tmp 15) 128 rfl w.heap.size 122 (.pointer none) 1 8 Tryz.underlying128 inf122 rfl (by omega) u3 k (ptrRow ps) rfl ho1 _ rfl rfl (oneCell_one rfl) (by simp only [maxLen];omega) (by omega) hz1 ?_;intro v2 w2 ho2 hu2 hb2)
   have hu1':Upd No wr w1:=((Upd.refl No wr).alloc _).no hu1;have hu3:Upd No w w2:=(hu.no hu1').trans hu2 fun j hj=>.inr (ho1.lt j hj).1;go_roundw
   case measure=>simp [intOf];omega
   case rel=>
    refine ⟨_,_,_,⟨k+1,ps++[p],by omega,by go_num,by rw [ptrRow_snoc];exact ho2,hu3,fun j hj=>?_⟩,rfl,rfl,rfl⟩;have hl:ps.length=k:=by have:=hown.1;rw [Jv] at this;omega
    have hf2:Fr N w1 w2:=hu2.fr (own_mutb ho1 rfl hN);by_cases hjk:j<k
    ·rw [getD_snoc_lt (by omega)];exact ((HP.out j hjk).fr hu1'.fr0).fr hf2
    ·have:j=k:=by omega
     subst this;rw [getD_snoc_eq hl.symm,HE.out];exact hp.fr hf2
  ·go_wp2;have hkn:k=s.n:=by omega
   subst hkn;obtain ⟨t,rfl,hP,_,hb⟩:=own_parr (N:=N) (es:=es) hown hN (H.out.len) 0 (fun j hj=>(HP.out j hj).weak fun _=>trivial);go_ret;exact ⟨t,rfl,hP,hu,hb⟩
theorem PArr.at_ {N:Nat} {w:World} {d:Nat} {s:SlV} {es:List Ent} {k:Nat} (h:PArr N w d s es) (hk:k<s.n):
  ∃b o p,s.A=some ⟨b,o,none⟩∧w.cell? ⟨b,o+k,none⟩=some (.pointer (some ⟨p,0,none⟩))∧Kg N w p (es.getD k default) (d≤k):=by
 obtain ⟨b,o,cs,hA,hb,ho,hN,hj⟩:=h.arr (by have:=h.cap;omega);obtain ⟨p,hp,he⟩:=hj k hk;exact ⟨b,o,p,hA,by rw [hb.cell,hp],he⟩
theorem take_succ_getD {α:Type} {l:List α} {d:α} {k:Nat} (h:k<l.length):l.take (k+1)=l.take k++[l.getD k d]:=by
 rw [List.take_add_one,List.getElem?_eq_getElem h];simp [List.getD_eq_getElem?_getD,List.getElem?_eq_getElem h]
def EntriesFromRel (s:SlV) (es:List Ent) (w:World) (v i:Value) (wr:World):Prop:=
 ∃k:Nat,k≤s.n∧i=.int .i64 (k:Nat)∧wr.ownsRow w.heap.size 104 4 v k (entRow (es.take k))∧Upd No w wr
theorem oneCell_four {a b c d:Value} (h1:a.oneCell'=true) (h2:b.oneCell'=true) (h3:c.oneCell'=true) (h4:d.oneCell'=true):∀u∈(#[a,b,c,d]:Array Value).toList,u.oneCell'=true:=by
 intro u hu;simp at hu;rcases hu with rfl|rfl|rfl|rfl<;>assumption
theorem entriesFrom (N d:Nat) (s:SlV) (es:List Ent) (w:World) (h:PArr N w d s es) (hok:∀j,j<s.n→0≤(es.getD j default).kind∧(es.getD j default).kind≤2) (hN:N≤w.heap.size) (hlen:s.n≤1000000):
  Calls Tryz.prog 85 #[.slice s.A s.n s.c] w fun r w'=>∃t:SlV,r=.returned (.slice t.A t.n t.c)∧Jh N w' t es∧Upd No w w'∧(t.A=none→t=⟨none,0,0⟩):=by
 have H:=qq h;clear h;go_enter Tryz.func85,Tryz.ntmps85;go_wp2;go_loopw [3,8] (EntriesFromRel s es w) (fun _ i _=>s.n - (intOf i).toNat)
 case atStart=>exact ⟨0,Nat.zero_le _,rfl,by simpa [entRow] using World.ownsRow_nil _ _ _ _,Upd.refl _ _⟩
 case round=>
  obtain ⟨k,hk,rfl,hown,hu⟩:=hrel;by_cases hlt:k<s.n
  ·obtain ⟨b,o,p,hA,c0,hp⟩:=(H.out.upd hu hu.fr0 (fun _ _ _ h=>h)).at_ hlt;have hz:w.heap.size≤wr.heap.size:=hu.size;obtain ⟨hk0,hk2⟩:=hok k hlt;have hts:=take_succ_getD (d:=(default:Ent)) (show k<es.length by have:=H.out.len;omega);generalize hE:es.getD k default=e at*;have HE:=qq hE;have HT:=qq hts;clear hE hts;obtain ⟨tp,ip,ty,ds,hb,h1,h2,h3,h4,_⟩:=hp;have hcv:=conv_bytes h4;go_wp2_with fail
   refine (ent_term hb h1).mono ?_;rintro r w1 ⟨rfl,rfl⟩;go_wp2_with fail
   refine (ent_index hb h2).mono ?_;rintro r w1 ⟨rfl,rfl⟩;go_wp2_with fail
   refine (ent_type hb h3).mono ?_;rintro r w1 ⟨rfl,rfl⟩;go_wp2_with fail
   refine (ent_data hb).mono ?_;rintro r w1 ⟨rfl,rfl⟩;go_wp2_with (at_builtin;refine app_one rfl (.tmp 12) (.tmp 24) 34 rfl w.heap.size 104 (.agg #[.int .u64 0,.int .u64 0,.int .i64 0,.string ⟨#[]⟩]) 4 40 Tryz.underlying34 inf104 rfl (by omega) u3 k _ rfl hown _ rfl rfl (oneCell_four rfl rfl rfl rfl) (by simp only [maxLen];omega) (by omega) hz ?_;intro v2 w2 ho2 hu2 hb2)
   go_roundw
   case measure=>simp [intOf];omega
   case rel=>
    refine ⟨_,_,_,⟨k+1,by omega,by go_num,?_,hu.trans hu2 fun j hj=>.inr (hown.lt j hj).1⟩,rfl,rfl,rfl⟩;rw [HT.out,entRow_snoc];exact ho2
  ·go_wp2;have hkn:k=s.n:=by omega
   subst hkn;have hl:=H.out.len;rw [List.take_of_length_le (by omega)] at hown;obtain ⟨t,rfl,_,hP,hn⟩:=own_ents hown N;go_ret;exact ⟨t,rfl,hP,hu,hn⟩
end Go.Proofs.YtmagnkjodjmojaaGreat
