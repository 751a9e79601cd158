/- A part of the proof of FnLog: laws and walks, with their conditions written at each. -/
import Derived.Test.YtmagnkjodjmojaaGreatQ11
import Derived.Test.YtmagnkjodjmojaaGreatQ13
import Derived.Test.YtmagnkjodjmojaaGreatQ23
set_option maxRecDepth 20000
set_option maxHeartbeats 4000000
set_option linter.all false
namespace Go.Proofs.YtmagnkjodjmojaaGreat
open Go.RowKit
theorem take_snoc {l:List Ent} {k:Nat} (h:k<l.length):l.take (k+1)=l.take k++[l.getD k default]:=by
 rw [List.take_add_one,List.getElem?_eq_getElem h,List.getD_eq_getElem?_getD,List.getElem?_eq_getElem h];rfl
theorem take_drop_snoc {l:List Ent} {a b:Nat} (hab:a≤b) (hb:b<l.length):(l.take (b+1)).drop a=(l.take b).drop a++[l.getD b default]:=by
 rw [take_snoc hb,List.drop_append_of_le_length (by simp;omega)]
def LgL.entAt (g:LgL) (i:Int):Ent:=if g.u.off≤i then ent g.u.es (i - g.u.off) else ent g.s.L (i - g.s.first)
theorem LgL.range_self (g:LgL) (lo:Int):g.range lo lo=[]:=by
 unfold LgL.range StL.sub;split
 ·exact List.drop_eq_nil_of_le (by simp;omega)
 ·rw [if_pos (by omega)];exact List.drop_eq_nil_of_le (by simp;omega)
theorem LgL.Ok.span {g:LgL} (h:g.Ok) {i:Int} (h1:g.first≤i) (h2:i≤g.last):(g.u.off≤i∧i<g.u.end_)∨(i<g.u.off∧g.s.first≤i∧i≤g.s.last):=by
 unfold LgL.first at h1;unfold LgL.last at h2;rcases hh:g.u.has with _|_
 ·have hg:=h.gap hh;rw [hh] at h1 h2;simp only [Bool.false_eq_true,if_false] at h1 h2;split at h2
  ·omega
  ·rename_i hl
   have:=hg.2.2 (by omega)
   omega
 ·have hg:=h.u.hs hh;rw [if_pos hh] at h1 h2;split at h2
  ·omega
  ·omega
theorem LgL.Ok.range_snoc {g:LgL} (h:g.Ok) {lo i:Int} (h0:g.first≤lo) (h1:lo≤i) (h2:i≤g.last):g.range lo (i+1)=g.range lo i++[g.entAt i]:=by
 have hs:=h.span (Int.le_trans h0 h1) h2;have hl:=h.span h0 (Int.le_trans h1 h2);unfold LgL.range LgL.entAt StL.sub;unfold TlL.end_ at hs hl;unfold StL.first StL.last at*;by_cases ha:g.u.off≤lo
 ·rw [if_pos ha,if_pos ha,if_pos (by omega)];obtain ⟨j,hj⟩:=Int.eq_ofNat_of_zero_le (show 0≤i - g.u.off by omega);rw [show (i+1 - g.u.off).toNat=j+1 by omega,show (i - g.u.off).toNat=j by omega,hj,ent_nat];exact take_drop_snoc (by omega) (by omega)
 ·rw [if_neg ha,if_neg ha];by_cases hb:i<g.u.off
  ·rw [if_pos (by omega),if_pos (by omega),if_neg (by omega)];obtain ⟨j,hj⟩:=Int.eq_ofNat_of_zero_le (show 0≤i - (g.s.atI+1) by omega);rw [show (i+1 - (g.s.atI+1)).toNat=j+1 by omega,show (i - (g.s.atI+1)).toNat=j by omega,hj,ent_nat];exact take_drop_snoc (by omega) (by omega)
  ·rw [if_neg (by omega),if_pos (show g.u.off≤i by omega)];obtain ⟨j,hj⟩:=Int.eq_ofNat_of_zero_le (show 0≤i - g.u.off by omega);rw [show (i+1 - g.u.off).toNat=j+1 by omega,hj,ent_nat,take_snoc (by omega),←List.append_assoc];congr 1;by_cases hc:i≤g.u.off
   ·obtain rfl:i=g.u.off:=by omega
    obtain rfl:j=0:=by omega
    rw [if_pos (Int.le_refl _)];simp
   ·rw [if_neg hc,Int.toNat_natCast]
def validX (a:Int):Int→Int→List Ent→Bool
 |t,_,[]=>decide (t≤a)
 |t,i,e::r=>if e.index=IntKind.u64.wrap (i+1)∧t≤e.term then validX a e.term e.index r else false
theorem validB_cons {a t i:Int} {e:Ent} {r:List Ent}:LgL.validB a t i (e::r)=true ↔ (e.index=i+1∧t≤e.term)∧LgL.validB a e.term e.index r=true:=by
 unfold LgL.validB;simp only [decide_eq_true_eq];have key:∀j,(if j+1=0 then t else ((e::r).getD (j+1 - 1) default).term)=if j=0 then e.term else (r.getD (j - 1) default).term:=by
  intro j;rcases j with _|j
  ·rfl
  ·simp
 have key2:(if (e::r).length=0 then t else ((e::r).getD ((e::r).length - 1) default).term)=if r.length=0 then e.term else (r.getD (r.length - 1) default).term:=by
  rcases r with _|⟨x,r⟩
  ·rfl
  ·simp
 rw [key2];constructor
 ·rintro ⟨h1,h2⟩;have h00:e.index=i+1+((0:Nat):Int)∧t≤e.term:=by simpa using h1 0 (by simp)
  refine ⟨⟨by omega,h00.2⟩,fun j hj=>?_,h2⟩;have:=h1 (j+1) (by simp;omega);rw [key,List.getD_cons_succ] at this;exact ⟨by omega,this.2⟩
 ·rintro ⟨⟨h1,h2⟩,h3,h4⟩;refine ⟨fun j hj=>?_,h4⟩;rcases j with _|j
  ·exact ⟨by simp;omega,by simpa using h2⟩
  ·rw [key,List.getD_cons_succ];have:=h3 j (by simpa using hj);exact ⟨by omega,this.2⟩
theorem validX_eq {a:Int}:∀{es:List Ent} {t i:Int},0≤i→i<4611686018427387904→(∀e∈es,0≤e.index∧e.index<4611686018427387904)→validX a t i es=LgL.validB a t i es
 |[],t,i,_,_,_=>by simp [validX,LgL.validB]
 |e::r,t,i,h0,h1,he=>by
  have hw:IntKind.u64.wrap (i+1)=i+1:=by
   unfold IntKind.wrap;simp [IntKind.bits,IntKind.signed];omega
  rw [Bool.eq_iff_iff,validB_cons];show (if e.index=IntKind.u64.wrap (i+1)∧t≤e.term then validX a e.term e.index r else false)=true ↔ _;rw [hw];have h2:=he e (by simp);by_cases hc:e.index=i+1∧t≤e.term
  ·rw [if_pos hc,validX_eq h2.1 h2.2 fun x hx=>he x (by simp [hx])];exact ⟨fun h=>⟨hc,h⟩,fun h=>h.2⟩
  ·rw [if_neg hc];exact ⟨fun h=>(by cases h),fun h=>absurd h.1 hc⟩
section
variable {N:Nat} {w w':World} {S:Nat→Prop} {I:StK} {s:StL} {B:TlK} {u:TlL} {l:Nat} {g:LgL}
theorem spValid {sl:SlV} {es:List Ent} (h:Jh N w sl es) (hu:AllU es) (hn:sl.n≤100000) {a t i:Int} (hi0:0≤i) (hi1:i<18446744073709551616):
  Calls Tryz.prog 57 #[.int .u64 a,.agg #[.int .u64 t,.int .u64 i],.slice sl.A sl.n sl.c] w fun e w'=>e=.returned (.bool (validX a t i es))∧Upd No w w':=by
 have hl:=h.len;have HH:=qq fun (W:World) (hu:Upd No w W)=>(show Jh N W sl es from h.fr hu.fr0);have HU:=qq hu
 have HBL:=qq fun (b o:Nat) (hn:0<sl.n) (hA:sl.A=some ⟨b,o,none⟩)=>(show b<w.heap.size by
  obtain ⟨b',o',hA',hi,_⟩:=h.at_ hn
  rw [hA] at hA';cases hA';exact hi.1)
 clear h hu;go_enter Tryz.func57,Tryz.ntmps57;go_wp2;go_loopw [8] (fun iv wr=>∃(k:Nat) (t' i':Int),k≤sl.n∧iv=.int .i64 (k:Nat)∧0≤i'∧i'<18446744073709551616∧Hid (Upd No w wr)∧Hid (Blk wr (w.heap.size+1) 33 #[.int .u64 t',.int .u64 i'])∧Hid (validX a t i es=validX a t' i' (es.drop k))) (fun i _=>sl.n - (intOf i).toNat)
 case atStart=>
  exact ⟨0,t,i,Nat.zero_le _,rfl,hi0,hi1,qq (((Upd.refl No w).alloc _).alloc _),qq (Blk.new_ (by simp)),qq rfl⟩
 case round=>
  obtain ⟨k,t',i',hk,rfl,hi0',hi1',hu,hb,hx⟩:=hrel;have hb0:wr.cell? ⟨w.heap.size+1,0,none⟩=some (.int .u64 t'):=hb.out.cell 0;have hb1:wr.cell? ⟨w.heap.size+1,1,none⟩=some (.int .u64 i'):=hb.out.cell 1;clear hi0 hi1;by_cases hlt:k<sl.n
  ·obtain ⟨b,o,hA,_,k0,k1,_⟩:=(HH.out wr hu.out).at4 hlt;have he:=HU.out k (by omega);have HXX:validX a t' i' (es.drop k)=if (es.getD k default).index=IntKind.u64.wrap (i'+1)∧t'≤(es.getD k default).term then validX a (es.getD k default).term (es.getD k default).index (es.drop (k+1)) else false:=by
    rw [drop_cons_getD (show k<es.length by omega)];rfl
   have HX:=qq (hx.out.trans HXX);clear HXX hx;have hbw:b≠w.heap.size+1:=by
    have:=HBL.out b o (by omega) hA
    omega
   rw [hA];have j0:=he.i0;have j1:=he.i1;have j2:=he.t0;have j3:=he.t1;clear he;generalize es.getD k default=e at*;by_cases hc1:e.index=IntKind.u64.wrap (i'+1)
   ·have hq:(e.index !=IntKind.u64.wrap (i'+1))=false:=bne_eq_false_iff_eq.2 hc1;by_cases hc2:t'≤e.term
    ·have hd:decide (e.term<t')=false:=decide_eq_false (by omega);have hr:=qq (HX.out.trans (if_pos ⟨hc1,hc2⟩));clear hc1 hc2;go_wp2_with fail
     go_quiet (fail)
     go_wp2_with fail
     obtain ⟨w8,hw8⟩:∃W,W=wr.drewN nq:=⟨_,rfl⟩;have HB8:=qq (show Blk w8 (w.heap.size+1) 33 #[.int .u64 t',.int .u64 i'] by rw [hw8];exact hb.out.drewN nq);have HU8:=qq (show Upd No w w8 by rw [hw8];exact hu.out.drewN nq);have a0:w8.cell? ⟨w.heap.size+1,0,none⟩=some (.int .u64 t'):=HB8.out.cell 0;have a1:w8.cell? ⟨w.heap.size+1,1,none⟩=some (.int .u64 i'):=HB8.out.cell 1;have a2:=HB8.out.frozen;have d0:w8.drew.cell? ⟨b,o+k*4,none⟩=some (.int .u64 e.term):=by rw [hw8];exact k0
     have d1:w8.drew.cell? ⟨b,o+k*4+1,none⟩=some (.int .u64 e.index):=by rw [hw8];exact k1
     have e01:=qq fun (x y:Value)=>(show ((w8.setCell ⟨w.heap.size+1,0,none⟩ x).setCell ⟨w.heap.size+1,1,none⟩ y).drew.cell? ⟨b,o+k*4,none⟩=some (.int .u64 e.term)∧((w8.setCell ⟨w.heap.size+1,0,none⟩ x).setCell ⟨w.heap.size+1,1,none⟩ y).drew.cell? ⟨b,o+k*4+1,none⟩=some (.int .u64 e.index) from
      have hu:=((Upd.refl (fun j=>j=w.heap.size+1) w8).setIn rfl 0 x).setIn rfl 1 y
      ⟨hu.drew.cell d0 hbw,hu.drew.cell d1 hbw⟩)
     rw [←hw8];clear hw8 k0 k1 hb0 hb1 hq hd hb hu;go_region_held3 (fun W=>W.cell? ⟨b,o+k*4,none⟩=some (.int .u64 e.term)∧W.cell? ⟨b,o+k*4+1,none⟩=some (.int .u64 e.index))
      (first
       |(with_reducible exact ⟨d0,d1⟩)
       |(with_reducible exact e01.out _ _))
      (fail)
     go_wp2;exact ⟨⟨k+1,e.term,e.index,by omega,by simp,j0,j1,qq (((HU8.out.setCell (.inr (Nat.le_succ _)) _).setCell (.inr (Nat.le_succ _)) _).drew),qq (((HB8.out.set_ 0 _).set_ 1 _).drew),hr⟩,by simp [intOf];omega⟩
    ·have hd:decide (e.term<t')=true:=decide_eq_true (by omega);have hr:=HX.out.trans (if_neg (fun h=>hc2 h.2));clear hc1 hc2;go_wp2_with fail
     go_quiet (fail)
     go_wp2;go_ret;exact ⟨by simp [hr],hu.out.drewN _⟩
   ·have hq:(e.index !=IntKind.u64.wrap (i'+1))=true:=bne_iff_ne.2 hc1;have hr:=HX.out.trans (if_neg (fun h=>hc1 h.1));clear hc1;go_wp2_with fail
    go_quiet (fail)
    go_wp2;go_ret;exact ⟨by simp [hr],hu.out.drewN _⟩
  ·have hr:validX a t i es=decide (t'≤a):=by rw [hx.out,List.drop_eq_nil_of_le (by omega)];rfl
   obtain rfl:k=sl.n:=by omega
   go_wp2;go_ret;exact ⟨by simp [hr],hu.out⟩
end
section
variable {P:Program}
theorem step_app_one {ops:Array Oper} {o:Oper} {a:Act} {K:Act→World→Prop} {Q:Exit→Act→World→Prop} {E:Prop} {W:World} (hgd:o.guard=none) (s x:Operand) (t:TypeId)
  (ho:o.op=.call {callee:=.builtin .append,args:=#[s,x],argTypes:=#[t,t]})
  (base:Nat) (e:TypeId) (z:Value) (size bytes:Nat) (ht:P.underlying t=some (.slice e)) (hinf:(P.info? e).map (fun i=>(i.zero,i.size,i.bytes))=some (some z,size,bytes)) (hzs:z.cells.size=size) (hsz:0<size)
  (v:Value) (n:Nat) (xs:List Value) (hs:a.eval s=v) (hown:W.ownsRow base e size v n xs)
  (H:Nat) (cs:Array Value) (hB:Blk W H e cs) (hx:a.eval x=.slice (some ⟨H,0,none⟩) 1 1) (hl:cs.size=size) (h1:∀u∈cs.toList,u.oneCell'=true)
  (h63:n+1≤maxLen) (hbytes:(n+1)*bytes≤140737488355328) (hbase:base≤W.heap.size)
  (h:∀v' w',w'.ownsRow base e size v' (n+1) (xs++cs.toList)→Upd (fun k=>v.ownBlock=some k) W w'→K (a.put o.dst v') w'):
  if Region.wanted o (yielded ops a.tmps)=true then Oper.wp P o a W K Q else E:=by
 have hw:Region.wanted o (yielded ops a.tmps)=true:=by simp [Region.wanted,hgd]
 rw [if_pos hw];obtain ⟨i,hi,hz,hsize,hby⟩:=info_parts hinf;obtain ⟨v',w',hr,h2,h3,h4,h5,h6⟩:=run_app_src (P:=P) W base t o.type e i z size bytes ht hi hz hsize hby hzs hsz v n xs hown _ 1 1 cs.toList (by simp [hl]) (fun _=>⟨_,rfl,World.news_of_block hB⟩) h1 h63 hbytes hbase;unfold Oper.wp execOp;simp only [ho,resolve,invoke,builtin,Sem.run_bind,Sem.run_pure,Result.andThen_ok,List.map_toArray,List.map_cons,List.map_nil,hs,hx,hr];exact h _ _ h2 ((Upd.refl _ W).grown h3 (fun k hk=>.inl hk))
end
theorem LgL.range_le (g:LgL) (lo hi:Int):(g.range lo hi).length≤g.u.es.length+g.s.L.length:=by
 unfold LgL.range StL.sub;split
 ·simp;omega
 split
 ·simp;omega
 ·simp;omega
section
variable {N:Nat} {w w':World} {S:Nat→Prop} {I:StK} {s:StL} {B:TlK} {u:TlL} {l:Nat} {g:LgL}
theorem spRange_no (h:Ka N w l I B g) (hs:g.Sm) {lo hi:Int} (hno:lo<g.first∨g.last+1<hi∨hi<lo):
  Calls Tryz.prog 67 #[.pointer (some ⟨l,0,none⟩),.int .u64 lo,.int .u64 hi] w fun e w'=>e=.returned (.tuple #[.slice none 0 0,.bool false])∧Upd No w w':=by
 have hb:=hs.last_bd;have H2:=qq (spFirst h hs.s hs.u);have H3:=qq (spLast h hs.s hs.u);have U0:=qq fun (n:Nat)=>(Upd.refl No w).drewN n;clear h hs;generalize g.first=f at*;generalize g.last=la at*;by_cases h1:lo<f
 ·clear hno;go_enter Tryz.func67,Tryz.ntmps67;go_wp2_with fail
  refine H2.out.mono ?_;rintro r w' ⟨rfl,rfl⟩;go_wp2;go_ret2;exact ⟨rfl,U0.out 0⟩
 ·by_cases h2:la+1<hi
  ·clear hno;go_enter Tryz.func67,Tryz.ntmps67;go_wp2_with fail
   refine H2.out.mono ?_;rintro r w' ⟨rfl,rfl⟩;go_wp2_with fail
   refine H3.out.mono ?_;rintro r w' ⟨rfl,n,rfl⟩;go_wp2;go_ret2;exact ⟨rfl,U0.out _⟩
  ·have h3:hi<lo:=by omega
   clear hno;go_enter Tryz.func67,Tryz.ntmps67;go_wp2_with fail
   refine H2.out.mono ?_;rintro r w' ⟨rfl,rfl⟩;go_wp2_with fail
   refine H3.out.mono ?_;rintro r w' ⟨rfl,n,rfl⟩;go_wp2;go_ret2;exact ⟨rfl,U0.out _⟩
theorem spRange_yes (h:Ka N w l I B g) (hs:g.Sm) (ho:g.Ok) {lo hi:Int} (h1:g.first≤lo) (h2:hi≤g.last+1) (h3:lo≤hi):
  Calls Tryz.prog 67 #[.pointer (some ⟨l,0,none⟩),.int .u64 lo,.int .u64 hi] w fun e w'=>∃t:SlV,e=.returned (.tuple #[.slice t.A t.n t.c,.bool true])∧Jh N w' t (g.range lo hi)∧Upd No w w':=by
 have hb:=hs.last_bd;have hf:=hs.first_bd;have H2:=qq (spFirst h hs.s hs.u);have H3:=qq (spLast h hs.s hs.u);have U0:=qq fun (n:Nat)=>(Upd.refl No w).drewN n;have HH:=qq fun (W:World) (hu:Upd No w W)=>h.no hu;have HSP:=qq fun (i:Int) (hl:lo≤i) (hh:i<hi)=>ho.span (i:=i) (by omega) (by omega);have HSN:=qq fun (i:Int) (hl:lo≤i) (hh:i<hi)=>ho.range_snoc h1 hl (show i≤g.last by omega);have HLEN:=qq (And.intro hs.u.len hs.s.len);have HBD:=qq fun (i:Int)=>(show (g.range lo i).length≤200000 from Nat.le_trans (LgL.range_le g lo i) (by have:=hs.u.len;have:=hs.s.len;omega));have HWL:=qq (And.intro h.blk.lt (And.intro h.st.blk.lt h.tl.blk.lt));have HSM:=qq hs.s;have o0:=hs.u.o0;have o1:=hs.u.o1;have i0:=hs.s.i0;have i1:=hs.s.i1;clear h hs;have HR0:=qq (g.range_self lo);generalize hff:g.first=f at*;generalize hla:g.last=la at*;clear ho;go_enter Tryz.func67,Tryz.ntmps67;go_wp2_with fail
 refine H2.out.mono ?_;rintro r w' ⟨rfl,rfl⟩;go_wp2_with fail
 refine H3.out.mono ?_;rintro r w' ⟨rfl,n,rfl⟩;go_wp2;go_loopw [8,9] (fun v i wr=>∃k:Nat,i=.int .u64 (lo+k)∧lo+k≤hi∧Hid (Upd No w wr)∧Hid (wr.ownsRow w.heap.size 104 4 v k (entRow (g.range lo (lo+k))))) (fun _ i _=>(hi - intOf i).toNat)
 case atStart=>
  exact ⟨0,by simp,by omega,U0.out _,qq (by simp only [Int.natCast_zero,Int.add_zero];rw [HR0.out];exact World.ownsRow_nil _ _ _ _)⟩
 case round=>
  obtain ⟨k,rfl,hk,hu,hown⟩:=hrel;by_cases hlt:lo+k<hi
  ·have hkl:k≤200000:=by
    have h1:=hown.out.1;rw [entRow_length] at h1;have h2:=HBD.out (lo+k);omega
   have hsp:=HSP.out (lo+k) (by omega) hlt;have hsn:=HSN.out (lo+k) (by omega) hlt;have hsp2:=HH.out wr hu.out
   have HWG:=qq fun (W:World) (hu2:Upd (fun j=>w.heap.size≤j) wr W)=>(show W.cell? ⟨l,1,none⟩=some (pp B.b)∧W.cell? ⟨B.b,9,none⟩=some (.slice B.E.A B.E.n B.E.c)∧W.cell? ⟨B.b,10,none⟩=some (.int .u64 g.u.off)∧W.cell? ⟨l,0,none⟩=some (pp I.b)∧W.cell? ⟨I.b,14,none⟩=some (.slice I.L.A I.L.n I.L.c) from
    ⟨hu2.cell (hsp2.c 1) (by have:=HWL.out.1;omega),hu2.cell (hsp2.tl.c 9) (by have:=HWL.out.2.2;omega),hu2.cell (hsp2.tl.c 10) (by have:=HWL.out.2.2;omega),hu2.cell (hsp2.c 0) (by have:=HWL.out.1;omega),hu2.cell (hsp2.st.c 14) (by have:=HWL.out.2.1;omega)⟩)
   have c1:=(HWG.out wr (Upd.refl _ _)).1;have c9:=(HWG.out wr (Upd.refl _ _)).2.1;have c10:=(HWG.out wr (Upd.refl _ _)).2.2.1;have c0:=(HWG.out wr (Upd.refl _ _)).2.2.2.1;by_cases hoff:g.u.off≤lo+k
   ·have hsp0:=hsp;clear hsp;have hsp:=hsp0.resolve_right (fun h=>by omega);have hat:g.entAt (lo+k)=ent g.u.es (lo+k - g.u.off):=by unfold LgL.entAt;rw [if_pos hoff]
    obtain ⟨j,hj⟩:=Int.eq_ofNat_of_zero_le (show 0≤lo+k - g.u.off by omega);have hen:=hsp2.tl.E.len;have hjn:j<B.E.n:=by unfold TlL.end_ at hsp;omega
    obtain ⟨b,o,hA,himm,k0,k1,k2,k3⟩:=hsp2.tl.E.at4 hjn;have hbl:b<w.heap.size:=by
     obtain ⟨b',o',hA',hi',_⟩:=(HH.out w (Upd.refl _ _)).tl.E.at_ (by omega);rw [hA] at hA';cases hA';exact hi'.1
    rw [hA] at c9;rw [hj,ent_nat] at hat;have hn2:B.E.n≤100000:=by have:=HLEN.out.1;omega
    have hdd:decide (g.u.off≤lo+k)=true:=decide_eq_true hoff;generalize g.u.es.getD j default=e at*;have HK:=qq fun (W:World) (hu2:Upd (fun j=>w.heap.size≤j) wr W)=>(show W.cell? ⟨l,1,none⟩=some (pp B.b)∧W.cell? ⟨B.b,9,none⟩=some (.slice (some ⟨b,o,none⟩) B.E.n B.E.c)∧W.cell? ⟨B.b,10,none⟩=some (.int .u64 g.u.off)∧W.cell? ⟨b,o+j*4,none⟩=some (.int .u64 e.term)∧W.cell? ⟨b,o+j*4+1,none⟩=some (.int .u64 e.index)∧W.cell? ⟨b,o+j*4+2,none⟩=some (.int .i64 e.kind)∧W.cell? ⟨b,o+j*4+3,none⟩=some (.string e.data) from ⟨(HWG.out W hu2).1,hA ▸(HWG.out W hu2).2.1,(HWG.out W hu2).2.2.1,hu2.cell k0 (by omega),hu2.cell k1 (by omega),hu2.cell k2 (by omega),hu2.cell k3 (by omega)⟩);have HKd:=qq (HK.out wr.drew (Upd.refl _ _).drew);have HKa:=qq fun (o:Obj)=>HK.out ((wr.alloc o).drew) ((Upd.refl _ _).alloc o).drew;have j1:lo+k - g.u.off<(B.E.n:Int):=by omega
    have j2:(0:Int)≤lo+k - g.u.off:=by omega
    have j3:(lo+k - g.u.off).toNat=j:=by omega
    have j4:IntKind.u64.wrap (lo+k - g.u.off)=lo+k - g.u.off:=by simp [IntKind.wrap_u64];omega
    have HOW:=qq fun (o:Obj)=>(show ((wr.alloc o).drew).ownsRow w.heap.size 104 4 u8 k (entRow (g.range lo (lo+k))) from hown.out.alloc o);have HBN:=qq (show Blk ((wr.alloc (.cells #[.int .u64 e.term,.int .u64 e.index,.int .i64 e.kind,.string e.data] 104)).drew) wr.heap.size 104 #[.int .u64 e.term,.int .u64 e.index,.int .i64 e.kind,.string e.data] from Blk.new wr _ _);have HWS:=qq fun (o:Obj)=>(show w.heap.size≤((wr.alloc o).drew).heap.size from Nat.le_trans hu.out.size (by show wr.heap.size≤(wr.alloc o).heap.size;simp))
    have HVB:=qq fun (j:Nat) (hj:u8.ownBlock=some j)=>(show w.heap.size≤j by
     obtain ⟨_,⟨rfl,_⟩|⟨g',cap',cur,rfl,hb',_⟩⟩:=hown.out
     ·cases hj
     ·cases hj;exact hb')
    have HEN:=qq (show ∀u∈(#[.int .u64 e.term,.int .u64 e.index,.int .i64 e.kind,.string e.data]:Array Value).toList,u.oneCell'=true by
     intro u hu;simp at hu;rcases hu with rfl|rfl|rfl|rfl<;>rfl)
    have HKL:=qq (And.intro (show k+1≤maxLen by simp only [maxLen];omega) (show (k+1)*40≤140737488355328 by omega));have hi1:lo+k+1<18446744073709551616:=by omega
    have HSNX:=qq (show entRow (g.range lo (lo+k+1))=entRow (g.range lo (lo+k))++(#[.int .u64 e.term,.int .u64 e.index,.int .i64 e.kind,.string e.data]:Array Value).toList by rw [hsn,hat,entRow_snoc];rfl);have HR:=qq (show lo+k<hi from hlt);have HJ:=qq hj;have hii:0≤lo+k:=by omega
    clear hsp0;have HOWR:=qq hown.out;clear hj hsn hat hsp hen hjn himm hA hsp2 k0 k1 k2 k3 hown hbl hkl hk j2;have j2:(0:Int)≤lo+k - g.u.off:=by have:=HJ.out;omega
    generalize hii2:lo+(k:Int)=i at*;have HI2:=qq hii2;clear hii2;go_wp2_with fail
    go_region_held3 (fun W=>W.cell? ⟨l,1,none⟩=some (pp B.b)∧W.cell? ⟨B.b,9,none⟩=some (.slice (some ⟨b,o,none⟩) B.E.n B.E.c)∧W.cell? ⟨B.b,10,none⟩=some (.int .u64 g.u.off)∧W.cell? ⟨b,o+j*4,none⟩=some (.int .u64 e.term)∧W.cell? ⟨b,o+j*4+1,none⟩=some (.int .u64 e.index)∧W.cell? ⟨b,o+j*4+2,none⟩=some (.int .i64 e.kind)∧W.cell? ⟨b,o+j*4+3,none⟩=some (.string e.data))
     (first
      |(with_reducible exact HKd.out)
      |(with_reducible exact HKa.out _)
      |(with_reducible exact HK10.out))
     (first
      |(with_reducible refine step_app_one rfl (.tmp 43) (.tmp 64) 34 rfl w.heap.size 104 (.agg #[.int .u64 0,.int .u64 0,.int .i64 0,.string ⟨#[]⟩]) 4 40 Tryz.underlying34 inf104 rfl (by omega) u8 k (entRow (g.range lo i)) rfl (HOW.out _) wr.heap.size #[.int .u64 e.term,.int .u64 e.index,.int .i64 e.kind,.string e.data] HBN.out rfl rfl HEN.out HKL.out.1 HKL.out.2 (HWS.out _) ?_
        intro v9 w9 hown9 hu9;have HU9:=qq (show Upd (fun j=>w.heap.size≤j) wr w9 from ((((Upd.refl _ wr).alloc _).drew).trans hu9 (fun j hj=>.inl (HVB.out j hj))));have HW9:=qq hown9;have HK10:=qq (HK.out w9 HU9.out)
        clear hown9 hu9))
    go_wp2;have h9:=HI2.out;refine ⟨⟨k+1,by simp;omega,by have:=HR.out;omega,qq (hu.out.trans HU9.out (fun j hj=>.inr hj)),qq ?_⟩,by simp [intOf];have:=HR.out;omega⟩;have h8:=HW9.out;rw [←HSNX.out] at h8;rw [show lo+((k+1:Nat):Int)=i+1 by omega];exact h8
   ·have hsp0:=hsp;clear hsp;have hsp:=hsp0.resolve_left (fun h=>by omega);have hat:g.entAt (lo+k)=ent g.s.L (lo+k - g.s.first):=by unfold LgL.entAt;rw [if_neg hoff]
    have hsf:g.s.first=g.s.atI+1:=rfl;have hsl:g.s.last=g.s.atI+g.s.L.length:=rfl;obtain ⟨j,hj⟩:=Int.eq_ofNat_of_zero_le (show 0≤lo+k - g.s.first by omega);have hen:=hsp2.st.L.len;have hjn:j<I.L.n:=by omega
    obtain ⟨b,o,hA,himm,k0,k1,k2,k3⟩:=hsp2.st.L.at4 hjn;have hbl:b<w.heap.size:=by
     obtain ⟨b',o',hA',hi',_⟩:=(HH.out w (Upd.refl _ _)).st.L.at_ (by omega);rw [hA] at hA';cases hA';exact hi'.1
    rw [hj,ent_nat] at hat;have hn2:I.L.n≤100000:=by have:=HLEN.out.2;omega
    have hdd:decide (g.u.off≤lo+k)=false:=decide_eq_false hoff;have HF:=qq fun (W:World) (hu2:Upd No wr W)=>spStFirst (hsp2.no hu2).st HSM.out;have HL:=qq fun (W:World) (hu2:Upd No wr W)=>spStLast (hsp2.no hu2).st HSM.out;have hsp1:=hsp.2.1;have hsp3:=hsp.2.2;generalize g.s.L.getD j default=e at*;have HK:=qq fun (W:World) (hu2:Upd (fun j=>w.heap.size≤j) wr W)=>(show W.cell? ⟨l,0,none⟩=some (pp I.b)∧W.cell? ⟨I.b,14,none⟩=some (.slice (some ⟨b,o,none⟩) I.L.n I.L.c)∧W.cell? ⟨b,o+j*4,none⟩=some (.int .u64 e.term)∧W.cell? ⟨b,o+j*4+1,none⟩=some (.int .u64 e.index)∧W.cell? ⟨b,o+j*4+2,none⟩=some (.int .i64 e.kind)∧W.cell? ⟨b,o+j*4+3,none⟩=some (.string e.data) from ⟨(HWG.out W hu2).2.2.2.1,hA ▸(HWG.out W hu2).2.2.2.2,hu2.cell k0 (by omega),hu2.cell k1 (by omega),hu2.cell k2 (by omega),hu2.cell k3 (by omega)⟩);have HKd:=qq (HK.out wr.drew (Upd.refl _ _).drew);have HKa:=qq fun (o:Obj)=>HK.out ((wr.alloc o).drew) ((Upd.refl _ _).alloc o).drew;have j1:lo+k - g.s.first<(I.L.n:Int):=by omega
    have j2:(0:Int)≤lo+k - g.s.first:=by omega
    have j3:(lo+k - g.s.first).toNat=j:=by omega
    have j4:IntKind.u64.wrap (lo+k - g.s.first)=lo+k - g.s.first:=by simp [IntKind.wrap_u64];omega
    have HOW:=qq fun (o:Obj)=>(show ((wr.alloc o).drew).ownsRow w.heap.size 104 4 u8 k (entRow (g.range lo (lo+k))) from hown.out.alloc o);have HBN:=qq (show Blk ((wr.alloc (.cells #[.int .u64 e.term,.int .u64 e.index,.int .i64 e.kind,.string e.data] 104)).drew) wr.heap.size 104 #[.int .u64 e.term,.int .u64 e.index,.int .i64 e.kind,.string e.data] from Blk.new wr _ _);have HWS:=qq fun (o:Obj)=>(show w.heap.size≤((wr.alloc o).drew).heap.size from Nat.le_trans hu.out.size (by show wr.heap.size≤(wr.alloc o).heap.size;simp))
    have HVB:=qq fun (j:Nat) (hj:u8.ownBlock=some j)=>(show w.heap.size≤j by
     obtain ⟨_,⟨rfl,_⟩|⟨g',cap',cur,rfl,hb',_⟩⟩:=hown.out
     ·cases hj
     ·cases hj;exact hb')
    have HEN:=qq (show ∀u∈(#[.int .u64 e.term,.int .u64 e.index,.int .i64 e.kind,.string e.data]:Array Value).toList,u.oneCell'=true by
     intro u hu;simp at hu;rcases hu with rfl|rfl|rfl|rfl<;>rfl)
    have HKL:=qq (And.intro (show k+1≤maxLen by simp only [maxLen];omega) (show (k+1)*40≤140737488355328 by omega));have hi1:lo+k+1<18446744073709551616:=by omega
    have HSNX:=qq (show entRow (g.range lo (lo+k+1))=entRow (g.range lo (lo+k))++(#[.int .u64 e.term,.int .u64 e.index,.int .i64 e.kind,.string e.data]:Array Value).toList by rw [hsn,hat,entRow_snoc];rfl);have HR:=qq (show lo+k<hi from hlt);have HJ:=qq hj;have hii:0≤lo+k:=by omega
    clear hsp0;have HOWR:=qq hown.out;clear hj hsn hat hsp hen hjn himm hA hsp2 k0 k1 k2 k3 hown hbl hkl hk j2;have j2:(0:Int)≤lo+k - g.s.first:=by have:=HJ.out;omega
    clear hsl hsf;generalize hii2:lo+(k:Int)=i at*;have HI2:=qq hii2;clear hii2;go_wp2_with fail
    refine (HF.out _ (Upd.refl _ _)).mono ?_;rintro r w1 ⟨rfl,rfl⟩;go_wp2_with fail
    refine (HL.out _ (Upd.refl _ _)).mono ?_;rintro r w1 ⟨rfl,n1,rfl⟩;go_wp2_with fail
    obtain ⟨w6,hw6⟩:∃W,W=wr.drewN n1:=⟨_,rfl⟩;have HU6:=qq (show Upd No wr w6 by rw [hw6];exact (Upd.refl _ _).drewN n1);have hown6:=qq (show w6.ownsRow w.heap.size 104 4 u8 k (entRow (g.range lo i)) by rw [hw6];exact HOWR.out);have HZ6:=qq (show w6.heap.size=wr.heap.size by rw [hw6];rfl);rw [←hw6];clear hw6 HKd HKa HOW HBN HWS;have HKd:=qq (HK.out w6.drew (HU6.out.ofNo.drew));have HKa:=qq fun (o:Obj)=>HK.out ((w6.alloc o).drew) (HU6.out.ofNo.alloc o).drew;have HOW:=qq fun (o:Obj)=>(show ((w6.alloc o).drew).ownsRow w.heap.size 104 4 u8 k (entRow (g.range lo i)) from hown6.out.alloc o);have HBN:=qq (show Blk ((w6.alloc (.cells #[.int .u64 e.term,.int .u64 e.index,.int .i64 e.kind,.string e.data] 104)).drew) w6.heap.size 104 #[.int .u64 e.term,.int .u64 e.index,.int .i64 e.kind,.string e.data] from Blk.new w6 _ _);have HWS:=qq fun (o:Obj)=>(show w.heap.size≤((w6.alloc o).drew).heap.size from Nat.le_trans hu.out.size (by show wr.heap.size≤(w6.alloc o).heap.size;have:=HZ6.out;simp;omega));clear hown6;go_region_held3 (fun W=>W.cell? ⟨l,0,none⟩=some (pp I.b)∧W.cell? ⟨I.b,14,none⟩=some (.slice (some ⟨b,o,none⟩) I.L.n I.L.c)∧W.cell? ⟨b,o+j*4,none⟩=some (.int .u64 e.term)∧W.cell? ⟨b,o+j*4+1,none⟩=some (.int .u64 e.index)∧W.cell? ⟨b,o+j*4+2,none⟩=some (.int .i64 e.kind)∧W.cell? ⟨b,o+j*4+3,none⟩=some (.string e.data))
     (first
      |(with_reducible exact HKd.out)
      |(with_reducible exact HKa.out _)
      |(with_reducible exact HK10.out))
     (first
      |(go_at_call 34
        refine (HF.out _ HU6.out.drew).mono ?_
        rintro r w7 ⟨rfl,rfl⟩)
      |(with_reducible refine step_app_one rfl (.tmp 83) (.tmp 100) 34 rfl w.heap.size 104 (.agg #[.int .u64 0,.int .u64 0,.int .i64 0,.string ⟨#[]⟩]) 4 40 Tryz.underlying34 inf104 rfl (by omega) u8 k (entRow (g.range lo i)) rfl (HOW.out _) w6.heap.size #[.int .u64 e.term,.int .u64 e.index,.int .i64 e.kind,.string e.data] HBN.out rfl rfl HEN.out HKL.out.1 HKL.out.2 (HWS.out _) ?_
        intro v9 w9 hown9 hu9;have HU9:=qq (show Upd (fun j=>w.heap.size≤j) wr w9 from ((((HU6.out.ofNo).alloc _).drew).trans hu9 (fun j hj=>.inl (HVB.out j hj))));have HW9:=qq hown9;have HK10:=qq (HK.out w9 HU9.out)
        clear hown9 hu9))
    go_wp2;have h9:=HI2.out;refine ⟨⟨k+1,by simp;omega,by have:=HR.out;omega,qq (hu.out.trans HU9.out (fun j hj=>.inr hj)),qq ?_⟩,by simp [intOf];have:=HR.out;omega⟩;have h8:=HW9.out;rw [←HSNX.out] at h8;rw [show lo+((k+1:Nat):Int)=i+1 by omega];exact h8
  ·obtain rfl:lo+(k:Int)=hi:=by omega
   obtain ⟨t,rfl,ht,hr,_⟩:=own_ents hown.out N;have HR:=qq hr;clear hr hown;go_wp2;go_ret2;exact ⟨t,by simp [ht],HR.out,hu.out⟩
end
section
variable {N:Nat} {w w':World} {S:Nat→Prop} {I:StK} {s:StL} {B:TlK} {u:TlL} {l:Nat} {g:LgL}
theorem Jh.dropS {sl:SlV} {es:List Ent} (h:Jh N w sl es) {k:Nat} (hk:k≤sl.n):Jh N w ⟨if sl.c=k then sl.A else sl.A.map (fun x=>x.add (k*4)),sl.n - k,sl.c - k⟩ (es.drop k):=by
 have hl:=h.len;have hc:=h.cap;refine ⟨by simp;omega,by simp only;omega,fun hn=>?_⟩;have hn:0<sl.n - k:=hn;obtain ⟨b,o,hA,hi,hcell⟩:=h.at_ (by omega);refine ⟨b,o+k*4,?_,hi,fun j i hj hi'=>?_⟩
 ·simp only;rw [if_neg (by omega),hA];simp [Addr.add]
 ·have hj:j<sl.n - k:=hj;rw [getD_drop,←hcell (k+j) i (by omega) hi',Nat.add_mul,Nat.add_assoc o,Nat.add_assoc (k*4)]
theorem SpTl.fr_b (h:SpTl N w B u) (hu:Upd (fun k=>k=B.b) w w'):Fr N w w':=hu.fr (by rintro k rfl;exact h.blk.mutb h.N rfl)
theorem SpTl.put (h:SpTl N w B u) {B':TlK} {u':TlL} (hb:Blk w' B.b 85 (tlCells B' u')) (hu:Upd (fun k=>k=B.b) w w') (hB:B'.b=B.b) (hcf:B'.v=B.v) (hsn:u'.snap=u.snap) (hE:B'.E=B.E) (hes:u'.es=u.es):SpTl N w' B' u':=
 ⟨hB ▸hb,by rw [hcf,hsn];exact h.cf.fr (h.fr_b hu),by rw [hE,hes];exact h.E.fr (h.fr_b hu),hB ▸h.N⟩
theorem spAccept (h:SpTl N w B u) (hs:u.Sm):
  Calls Tryz.prog 27 #[.pointer (some ⟨B.b,0,none⟩)] w fun e w'=>e=.returned (.tuple #[])∧SpTl N w' B u.accept∧Upd (fun k=>k=B.b) w w':=by
 have c8:=h.c 8;have d9:w.drew.cell? ⟨B.b,9,none⟩=some B.E.v:=h.c 9;have d10:w.drew.cell? ⟨B.b,10,none⟩=some (.int .u64 u.off):=h.c 10;have dy:w.drew.frozen? ⟨B.b,12,none⟩=false:=h.blk.frozen 12;have c12:w.cell? ⟨B.b,12,none⟩=some (.int .u64 u.till):=h.c 12;have o0:=hs.o0;have o1:=hs.o1;have hl:=h.E.len;have hlen:=hs.len;have hn2:B.E.n≤100000:=by omega
 have hE:u.end_=u.off+(B.E.n:Int):=by unfold TlL.end_;omega
 have HB:=qq fun (x:Int)=>(h.blk.set_ 12 (.int .u64 x)).drew;have HU:=qq fun (x:Int)=>(((Upd.refl (fun k=>k=B.b) w).setIn rfl 12 (.int .u64 x)).drew);have e9:=qq fun (x:Int)=>(show (w.setCell ⟨B.b,12,none⟩ (.int .u64 x)).drew.cell? ⟨B.b,9,none⟩=some B.E.v from (HB.out x).cell 9);have e10:=qq fun (x:Int)=>(show (w.setCell ⟨B.b,12,none⟩ (.int .u64 x)).drew.cell? ⟨B.b,10,none⟩=some (.int .u64 u.off) from (HB.out x).cell 10);have ey:=qq fun (x:Int)=>(show (w.setCell ⟨B.b,12,none⟩ (.int .u64 x)).drew.frozen? ⟨B.b,12,none⟩=false from (HB.out x).frozen 12)
 have HP:=qq fun (x:Int) (hx:u.end_=x)=>(show SpTl N ((w.setCell ⟨B.b,12,none⟩ (.int .u64 x)).drew.setCell ⟨B.b,11,none⟩ (.bool u.has)) B u.accept from
  h.put (by subst hx;exact (HB.out _).set_ 11 _) ((HU.out x).setIn rfl 11 _) rfl rfl rfl rfl rfl)
 have z8:=fun (x:Int)=>(show (w.setCell ⟨B.b,12,none⟩ (.int .u64 x)).drew.cell? ⟨B.b,8,none⟩=some (.bool u.has) from (HB.out x).cell 8);have z11:=fun (x:Int)=>(show (w.setCell ⟨B.b,12,none⟩ (.int .u64 x)).drew.cell? ⟨B.b,11,none⟩=some (.bool u.going) from (HB.out x).cell 11);have zy:=fun (x:Int)=>(show (w.setCell ⟨B.b,12,none⟩ (.int .u64 x)).drew.frozen? ⟨B.b,11,none⟩=false from (HB.out x).frozen 11);have EW:=qq (show IntKind.u64.wrap (u.off+IntKind.u64.wrap (B.E.n:Int))=u.off+(B.E.n:Int) by simp [IntKind.wrap_u64];omega);have HE:=qq hE;clear h hs hl hlen hE c8;go_enter Tryz.func27,Tryz.ntmps27;go_wp2_with fail
 go_region_held3 (fun w'=>w'.cell? ⟨B.b,9,none⟩=some B.E.v∧w'.cell? ⟨B.b,10,none⟩=some (.int .u64 u.off)∧w'.frozen? ⟨B.b,12,none⟩=false)
  (first
   |(with_reducible exact ⟨d9,d10,dy⟩)
   |(exact ⟨e9.out _,e10.out _,ey.out _⟩))
  (fail)
 rw [EW.out];have z8:=z8 (u.off+(B.E.n:Int));have z11:=z11 (u.off+(B.E.n:Int));have zy:=zy (u.off+(B.E.n:Int));go_wp2;go_end0;exact ⟨rfl,HP.out _ HE.out,(HU.out _).setIn rfl 11 _⟩
theorem spNext (h:SpTl N w B u) (hs:u.Sm) (h1:u.off≤u.till) (h2:u.till≤u.end_):
  Calls Tryz.prog 66 #[.pointer (some ⟨B.b,0,none⟩)] w fun e w'=>∃t:SlV,e=.returned (.slice t.A t.n t.c)∧Jh N w' t u.next∧∃n,w.drewN n=w':=by
 have c9:w.cell? ⟨B.b,9,none⟩=some B.E.v:=h.c 9;have c10:w.cell? ⟨B.b,10,none⟩=some (.int .u64 u.off):=h.c 10;have c12:w.cell? ⟨B.b,12,none⟩=some (.int .u64 u.till):=h.c 12;have o0:=hs.o0;have o1:=hs.o1;have hl:=h.E.len;have hlen:=hs.len;have hn2:B.E.n≤100000:=by omega
 have hcap:=h.E.cap;obtain ⟨k,hk⟩:=Int.eq_ofNat_of_zero_le (show 0≤u.till - u.off by omega);have hkn:k≤B.E.n:=by unfold TlL.end_ at h2;omega
 have HN:u.next=u.es.drop k:=by unfold TlL.next;rw [hk,Int.toNat_natCast]
 rw [HN];obtain ⟨X,hX⟩:∃X,X=(if B.E.c=k then B.E.A else Option.map (fun x=>x.add (k*4)) B.E.A):=⟨_,rfl⟩;have HR:=qq (show Jh N w ⟨X,B.E.n - k,B.E.c - k⟩ (u.es.drop k) by rw [hX];exact h.E.dropS hkn);have HX:=qq hX;clear hX;have HK:=qq hk;clear h hs hl hlen HN h2;go_enter Tryz.func66,Tryz.ntmps66;go_wp2_with fail
 go_quiet (fail)
 rw [←HX.out];go_wp2;go_ret;exact ⟨⟨X,B.E.n - k,B.E.c - k⟩,rfl,HR.out.fr (((Upd.refl No w).drewN _).fr0),_,rfl⟩
end
section
variable {N:Nat} {w w':World} {S:Nat→Prop} {A A':StK} {s s':StL} {B B':TlK} {u u':TlL} {l:Nat} {g:LgL}
theorem Kb.fr_b (h:Kb N w A s) (hu:Upd (fun k=>k=A.b) w w'):Fr N w w':=hu.fr (by rintro k rfl;exact h.blk.mutb h.N rfl)
theorem Ka.fr_s (h:Ka N w l A B g) (hu:Upd (spS l A B) w w'):Fr N w w':=hu.fr (by
 rintro k (rfl|rfl|rfl)
 ·exact h.blk.mutb h.N rfl
 ·exact h.st.blk.mutb h.st.N rfl
 ·exact h.tl.blk.mutb h.tl.N rfl)
theorem Ka.of_tl (h:Ka N w l A B g) (ht:SpTl N w' B' u') (hb:B'.b=B.b) (hu:Upd (fun k=>k=B.b) w w'):Ka N w' l A B' {g with u:=u'}∧Upd (spS l A B) w w':=by
 have hf:=h.tl.fr_b hu;refine ⟨⟨?_,h.st.upd hu hf h.ne_st,ht,h.N⟩,hu.mono fun k hk=>.inr (.inr hk)⟩;have:=h.blk.upd hu h.ne_t;unfold lgCells at*;rw [hb];exact this
theorem Ka.of_st (h:Ka N w l A B g) (ht:Kb N w' A' s') (hb:A'.b=A.b) (hu:Upd (fun k=>k=A.b) w w'):Ka N w' l A' B {g with s:=s'}∧Upd (spS l A B) w w':=by
 have hf:=h.st.fr_b hu;refine ⟨⟨?_,ht,h.tl.upd hu hf (fun e=>h.ne_st e.symm),h.N⟩,hu.mono fun k hk=>.inr (.inl hk)⟩;have:=h.blk.upd hu h.ne_s;unfold lgCells at*;rw [hb];exact this
theorem Ka.of_l (h:Ka N w l A B g) {g':LgL} (hb:Blk w' l 57 (lgCells A B g')) (hs:g'.s=g.s) (hu':g'.u=g.u) (hu:Upd (fun k=>k=l) w w'):Ka N w' l A B g'∧Upd (spS l A B) w w':=by
 have hf:Fr N w w':=hu.fr (by rintro k rfl;exact h.blk.mutb h.N rfl);exact ⟨⟨hb,hs ▸h.st.upd hu hf (fun e=>h.ne_s e.symm),hu' ▸h.tl.upd hu hf (fun e=>h.ne_t e.symm),h.N⟩,hu.mono fun k hk=>.inl hk⟩
theorem Ka.of_no (h:Ka N w l A B g) (hu:Upd No w w'):Ka N w' l A B g∧Upd (spS l A B) w w':=⟨h.no hu,hu.ofNo⟩
theorem spCommit (h:Ka N w l A B g) (hs:g.Sm) {n:Int}:
  Calls Tryz.prog 24 #[.pointer (some ⟨l,0,none⟩),.int .u64 n] w fun e w'=>e=.returned (.bool (g.commit? n).isSome)∧Ka N w' l A B ((g.commit? n).getD g)∧Upd (spS l A B) w w':=by
 have c2:w.cell? ⟨l,2,none⟩=some (.int .u64 g.com):=h.c 2;have HL:=qq (spLast h hs.s hs.u);have HF:=qq fun (n:Nat)=>h.of_no ((Upd.refl No w).drewN n);have HP:=qq fun (m:Nat)=>h.of_l (w':=((w.drewN m).setCell ⟨l,2,none⟩ (.int .u64 n))) (g':={g with com:=n}) ((h.blk.drewN m).set_ 2 _) rfl rfl (((Upd.refl (fun k=>k=l) w).drewN m).setIn rfl 2 _);have HZ:=fun (m:Nat)=>(show (w.drewN m).cell? ⟨l,2,none⟩=some (.int .u64 g.com) from h.c 2);have HY:=fun (m:Nat)=>(show (w.drewN m).frozen? ⟨l,2,none⟩=false from h.blk.frozen 2);by_cases h1:g.com<n
 ·by_cases h2:g.last<n
  ·have hr:g.commit? n=none:=by unfold LgL.commit?;rw [if_pos ⟨h1,h2⟩]
   rw [hr];clear h hs hr HP;generalize g.last=la at*;go_enter Tryz.func24,Tryz.ntmps24;go_wp2_with fail
   refine HL.out.mono ?_;rintro r w' ⟨rfl,m,rfl⟩;go_wp2;go_ret;exact ⟨rfl,HF.out m⟩
  ·have hr:g.commit? n=some {g with com:=n}:=by unfold LgL.commit?;rw [if_neg (by omega)];unfold LgL.commit;rw [if_pos h1]
   rw [hr];simp only [Option.isSome_some,Option.getD_some];clear h hs hr;generalize g.last=la at*;go_enter Tryz.func24,Tryz.ntmps24;go_wp2_with fail
   refine HL.out.mono ?_;rintro r w' ⟨rfl,m,rfl⟩;have hz:=HZ m;have hy:=HY m;go_wp2;go_ret;exact ⟨rfl,HP.out m⟩
 ·have hr:g.commit? n=some g:=by
   unfold LgL.commit?;rw [if_neg (by omega)];unfold LgL.commit;rw [if_neg h1]
  rw [hr];simp only [Option.isSome_some,Option.getD_some];clear h hs hr HP;go_enter Tryz.func24,Tryz.ntmps24;go_wp2;go_ret;exact ⟨rfl,HF.out 0⟩
end
theorem inf83:(Tryz.prog.info? 83).map (·.size)=some 13:=by kernel_rfl
section
variable {N:Nat} {w w':World} {S:Nat→Prop} {I:StK} {s:StL} {B:TlK} {u:TlL} {l:Nat} {g:LgL}
theorem spStableSnap (h:SpTl N w B u) {i:Int}:
  Calls Tryz.prog 29 #[.pointer (some ⟨B.b,0,none⟩),.int .u64 i] w fun e w'=>e=.returned (.tuple #[])∧(∃B',B'.b=B.b∧SpTl N w' B' (u.Jy i))∧Upd (fun k=>k=B.b) w w':=by
 have c1:w.cell? ⟨B.b,1,none⟩=some (.int .u64 u.snap.index):=by rw [←h.cf.index];exact h.c 1
 have c8:w.cell? ⟨B.b,8,none⟩=some (.bool u.has):=h.c 8;rcases hh:u.has with _|_
 ·have hr:u.Jy i=u:=by unfold TlL.Jy;rw [if_neg (by rw [hh];rintro ⟨h,_⟩;cases h)]
  rw [hr];rw [hh] at c8;have HH:=qq h;clear h hr hh;go_enter Tryz.func29,Tryz.ntmps29;go_wp2;go_end0;exact ⟨rfl,⟨B,rfl,HH.out⟩,Upd.refl _ _⟩
 ·rw [hh] at c8;by_cases hi:u.snap.index=i
  ·have hr:u.Jy i= {u with snap:=Snap.zero,has:=false,going:=false}:=by unfold TlL.Jy;rw [if_pos ⟨hh,hi⟩]
   rw [hr];have hq:(u.snap.index==i)=true:=beq_iff_eq.2 hi;have HU:=qq (((((((((((Upd.refl (fun k=>k=B.b) w).setIn rfl 0 (.string ⟨#[]⟩)).setIn rfl 1 (.int .u64 0)).setIn rfl 2 (.int .u64 0)).setIn rfl 3 (.slice none 0 0)).setIn rfl 4 (.slice none 0 0)).setIn rfl 5 (.slice none 0 0)).setIn rfl 6 (.slice none 0 0)).setIn rfl 7 (.bool false)).setIn rfl 8 (.bool false)).setIn rfl 11 (.bool false));have HP:=qq (show SpTl N _ {B with v:=SnV.nil} {u with snap:=Snap.zero,has:=false,going:=false} from ⟨(show (((((((((((tlCells B u).setIfInBounds 0 (.string ⟨#[]⟩)).setIfInBounds 1 (.int .u64 0)).setIfInBounds 2 (.int .u64 0)).setIfInBounds 3 (.slice none 0 0)).setIfInBounds 4 (.slice none 0 0)).setIfInBounds 5 (.slice none 0 0)).setIfInBounds 6 (.slice none 0 0)).setIfInBounds 7 (.bool false)).setIfInBounds 8 (.bool false)).setIfInBounds 11 (.bool false))=tlCells {B with v:=SnV.nil} {u with snap:=Snap.zero,has:=false,going:=false} by simp [tlCells,SnV.nil,CfV.nil]) ▸((((((((((h.blk.set_ 0 (.string ⟨#[]⟩)).set_ 1 (.int .u64 0)).set_ 2 (.int .u64 0)).set_ 3 (.slice none 0 0)).set_ 4 (.slice none 0 0)).set_ 5 (.slice none 0 0)).set_ 6 (.slice none 0 0)).set_ 7 (.bool false)).set_ 8 (.bool false)).set_ 11 (.bool false)),SnV.Js _ _,h.E.fr (h.fr_b HU.out),h.N⟩);have y:=h.blk.frozen;have z:=h.c;clear h hr hh hi;unfold tlCells at z;have z0:=z 0;have z1:=z 1;have z2:=z 2;have z3:=z 3;have z4:=z 4;have z5:=z 5;have z6:=z 6;have z7:=z 7;have z8:=z 8;have z11:=z 11;clear z
   simp at z0 z1 z2 z3 z4 z5 z6 z7 z8 z11;go_enter Tryz.func29,Tryz.ntmps29;go_wp2;go_end0;exact ⟨rfl,⟨{B with v:=SnV.nil},rfl,HP.out⟩,HU.out⟩
  ·have hr:u.Jy i=u:=by unfold TlL.Jy;rw [if_neg (by rintro ⟨_,h⟩;exact hi h)]
   rw [hr];have hq:(u.snap.index==i)=false:=beq_eq_false_iff_ne.2 hi;have HH:=qq h;clear h hr hh hi;go_enter Tryz.func29,Tryz.ntmps29;go_wp2;go_end0;exact ⟨rfl,⟨B,rfl,HH.out⟩,Upd.refl _ _⟩
theorem spRestore (h:SpTl N w B u) {v:SnV} {p:Snap} (hv:v.Rd N w p) (h0:0≤p.index) (h1:p.index<4611686018427387904):
  Calls Tryz.prog 30 #[.pointer (some ⟨B.b,0,none⟩),.agg #[.string v.data,.int .u64 v.index,.int .u64 v.term,.slice v.cf.vo.A v.cf.vo.n v.cf.vo.c,.slice v.cf.le.A v.cf.le.n v.cf.le.c,.slice v.cf.ou.A v.cf.ou.n v.cf.ou.c,.slice v.cf.ne.A v.cf.ne.n v.cf.ne.c,.bool v.cf.auto]] w
   fun e w'=>e=.returned (.tuple #[])∧(∃B',B'.b=B.b∧SpTl N w' B' (TlL.restored p))∧Upd (fun k=>k=B.b) w w':=by
 have hi:v.index=p.index:=hv.index;have i0:0≤v.index:=by omega
 have i1:v.index<4611686018427387904:=by omega
 have HB:=qq fun (o:Obj)=>h.blk.alloc o;have HP:=qq fun (o:Obj) (W:World) (hb:Blk W B.b 85 (tlCells ⟨B.b,v,⟨none,0,0⟩⟩ (TlL.restored {p with index:=v.index}))) (hu:Upd (fun k=>k=B.b) (w.alloc o) W)=>
  (show (∃B',B'.b=B.b∧SpTl N W B' (TlL.restored p))∧Upd (fun k=>k=B.b) w W from by
   have hu2:Upd (fun k=>k=B.b) w W:=((Upd.refl (fun k=>k=B.b) w).alloc o).Ke hu;rw [hi] at hb
   exact ⟨⟨⟨B.b,v,⟨none,0,0⟩⟩,rfl,hb,hv.fr (h.fr_b hu2),Jg.nil none,h.N⟩,hu2⟩)
 unfold tlCells at HP;simp only [TlL.restored] at HP;have HI:=qq (show (Tryz.prog.info? 83).map (·.size)=some (#[.string v.data,.int .u64 v.index,.int .u64 v.term,v.cf.vo.v,v.cf.le.v,v.cf.ou.v,v.cf.ne.v,.bool v.cf.auto,.bool true,.slice none 0 0,.int .u64 (v.index+1),.bool false,.int .u64 (v.index+1)]:Array Value).size from inf83);have HSZ:=qq (show (tlCells B u).size=(#[.string v.data,.int .u64 v.index,.int .u64 v.term,v.cf.vo.v,v.cf.le.v,v.cf.ou.v,v.cf.ne.v,.bool v.cf.auto,.bool true,.slice none 0 0,.int .u64 (v.index+1),.bool false,.int .u64 (v.index+1)]:Array Value).size from rfl);have HO:=qq (show (#[.string v.data,.int .u64 v.index,.int .u64 v.term,v.cf.vo.v,v.cf.le.v,v.cf.ou.v,v.cf.ne.v,.bool v.cf.auto,.bool true,.slice none 0 0,.int .u64 (v.index+1),.bool false,.int .u64 (v.index+1)]:Array Value).all (·.oneCell')=true by simp [Value.oneCell']);clear h hv hi h0 h1;go_enter Tryz.func30,Tryz.ntmps30
 go_wp2_with (first
  |(with_reducible refine Jk rfl 83 (.tmp 14) (.tmp 12) rfl B.b #[.string v.data,.int .u64 v.index,.int .u64 v.term,v.cf.vo.v,v.cf.le.v,v.cf.ou.v,v.cf.ne.v,.bool v.cf.auto,.bool true,.slice none 0 0,.int .u64 (v.index+1),.bool false,.int .u64 (v.index+1)] rfl rfl 85 (tlCells B u) (HB.out _) HI.out HSZ.out HO.out ?_
    intro w1 hb hu
    have HB1:=qq hb;have HU1:=qq hu;clear hb hu)
  |fail)
 go_end0
 exact ⟨rfl,HP.out _ _ HB1.out HU1.out⟩
end
end Go.Proofs.YtmagnkjodjmojaaGreat
