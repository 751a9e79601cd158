/- FnLog says true for every input, and its arguments read behind the call as before. No condition. -/
import Derived.Test.YtmagnkjodjmojaaGreatRows
import Derived.ProofKit
import Derived.Deep.Slices
import Derived.Test.YtmagnkjodjmojaaGreatQ46
set_option maxRecDepth 20000
set_option maxHeartbeats 4000000
set_option linter.all false
namespace Go.Proofs.YtmagnkjodjmojaaGreat
open Go.ChangeShapes Go.WideShapes Go.ChangeAt Go.RowKit
theorem Tryz.own:ownKnob Tryz.prog.godebug=none:=by kernel_rfl
theorem Tryz.laidOut:laidOutB Tryz.prog=true:=by kernel_rfl
theorem Jx {cs p:List Value} {o k:Nat} (h:(cs.drop o).take k=p):cs.drop o=p++cs.drop (o+k):=by
 rw [←h,←List.drop_drop,List.take_append_drop]
section
variable {H:Type} {enc:TypeId×Value→H} {W:World} {n:Nat} {cs:List Value} {x:DataW H×List MemPlace}
abbrev Trd {H:Type} (enc:TypeId×Value→H) (W:World) (n:Nat) (t:TypeId) (cs:List Value) (x:DataW H×List MemPlace):Prop:=
 DataW.trod enc Tryz.prog W 0 (fun _=>true) true n t cs=some x
theorem fld {t T:TypeId} {fs:Array Field} (ht:Tryz.prog.underlying t=some (.struct fs)) (h:Trd enc W n t cs x) (i o:Nat) {k:Nat} (hk:Tryz.prog.cellsOf T=k) {f:Field} (hf:fs[i]? =some f) (ho:f.offset=o) (hT:f.type=T):∃m y,Trd enc W m T ((cs.drop o).take k) y:=by
 obtain ⟨xs,m,_,_,_,hl,hx⟩:=DataW.trod_struct ht h;have hi:i<fs.size:=(Array.getElem?_eq_some_iff.1 hf).1;have:=hx i f hf;rw [ho,hT,hk,List.getElem?_eq_getElem (by omega)] at this;exact ⟨m,_,this⟩
theorem trd_len {t:TypeId} {fs:Array Field} (ht:Tryz.prog.underlying t=some (.struct fs)) (h:Trd enc W n t cs x):cs.length=Tryz.prog.cellsOf t:=by
 obtain ⟨xs,m,_,_,hl,_⟩:=DataW.trod_struct ht h;exact hl
theorem trd_u64 (h:Trd enc W n 23 cs x):∃a:Int,cs=[.int .u64 a]∧0≤a∧a<18446744073709551616:=by
 obtain ⟨a,rfl,_,hw⟩:=DataW.trod_int Tryz.underlying23 h;simp [Lit.wf,IntKind.min,IntKind.max,IntKind.signed,IntKind.bits] at hw;exact ⟨a,rfl,by omega,by omega⟩
theorem trd_i64 (h:Trd enc W n 3 cs x):∃a:Int,cs=[.int .i64 a]:=by
 obtain ⟨a,rfl,_,hw⟩:=DataW.trod_int Tryz.underlying3 h;exact ⟨a,rfl⟩
theorem trd_bool (h:Trd enc W n 4 cs x):∃a:Bool,cs=[.bool a]:=by
 obtain ⟨a,rfl,_⟩:=DataW.trod_bool Tryz.underlying4 h;exact ⟨a,rfl⟩
theorem trd_str (h:Trd enc W n 9 cs x):∃a:ByteArray,cs=[.string a]:=by
 obtain ⟨a,rfl,_⟩:=DataW.trod_string Tryz.underlying9 h;exact ⟨a,rfl⟩
theorem trd_slice {α:Type} [Inhabited α] {t e:TypeId} {sz:Nat} (cell:α→Nat→Value) (G:α→Prop) (ht:Tryz.prog.underlying t=some (.slice e)) (hsz:Tryz.prog.cellsOf e=sz) (hp:0<sz)
  (hel:∀(n:Nat) (cs:List Value) (x:DataW H×List MemPlace),cs.length=sz→Trd enc W n e cs x→∃y,(∀i,i<sz→cs[i]? =some (cell y i))∧G y) (h:Trd enc W n t cs x):
  ∃(s:SlV) (ys:List α),cs=[.slice s.A s.n s.c]∧Jg W.heap.size W sz s ys.length (fun j i=>cell (ys.getD j default) i)∧∀j,j<ys.length→G (ys.getD j default):=by
 rcases Go.Deep.open_slice ht h with ⟨rfl,_⟩|⟨a,len,cap,m,k,D,Pl,rfl,_,hl,_,hm,_,hx⟩
 ·exact ⟨⟨none,0,0⟩,[],rfl,Jg.nil _,fun j hj=>absurd hj (Nat.not_lt_zero j)⟩
 have hm':m=cap:=by simpa using hm
 rw [hsz] at hx
 obtain ⟨Y,hY⟩:=Go.Deep.choose_lt (n:=len) (p:=fun i y=>(∃cs',W.cells? 0 (a.add (i*sz)) sz=some cs'∧∀j,j<sz→cs'[j]? =some (cell y j))∧G y) (fun i hi=>by
  obtain ⟨cs',h1,h2⟩:=hx i (by omega);obtain ⟨y,h3,h4⟩:=hel k cs' _ (World.cells?_some h1).2.1 h2
  exact ⟨y,⟨cs',h1,h3⟩,h4⟩)
 have hg:∀j,j<len→((List.range len).map Y).getD j default=Y j:=fun j hj=>by simp [List.getD,hj]
 refine ⟨⟨some a,len,cap⟩,(List.range len).map Y,rfl,⟨by simp,hl,fun h0=>?_⟩,fun j hj=>?_⟩
 ·have h0':0<len:=h0;have hc:∀j i,j<len→i<sz→W.cell? ((a.add (j*sz)).add i)=some (cell (Y j) i):=fun j i hj hi=>by
   obtain ⟨⟨cs',h1,h2⟩,_⟩:=hY j hj;rw [(World.cells?_some h1).2.2 i hi,h2 i hi]
  have h00:=hc 0 0 h0' hp;rw [Nat.zero_mul] at h00;have h01:W.cell? a=some (cell (Y 0) 0):=by simpa [Addr.add] using h00
  obtain ⟨b,o,sp⟩:=a;obtain rfl:sp=none:=World.cell?_spot h01;refine ⟨b,o,rfl,⟨World.block_lt_of_cell? W ⟨b,o,none⟩ h01,.inl (World.block_lt_of_cell? W ⟨b,o,none⟩ h01)⟩,fun j i hj hi=>?_⟩;have h1:=hc j i hj hi;rw [Go.Deep.add_add] at h1;rw [hg j hj,←h1];unfold Addr.add;split
  ·rename_i e;rw [e];rfl
  ·rfl
 ·have hj':j<len:=by simpa using hj
  rw [hg j hj'];exact (hY j hj').2
theorem cells23:Tryz.prog.cellsOf 23=1:=by kernel_rfl
theorem cells3:Tryz.prog.cellsOf 3=1:=by kernel_rfl
theorem cells4:Tryz.prog.cellsOf 4=1:=by kernel_rfl
theorem cells9:Tryz.prog.cellsOf 9=1:=by kernel_rfl
theorem cells33:Tryz.prog.cellsOf 33=2:=by kernel_rfl
theorem cells34:Tryz.prog.cellsOf 34=1:=by kernel_rfl
theorem cells35:Tryz.prog.cellsOf 35=1:=by kernel_rfl
theorem cells37:Tryz.prog.cellsOf 37=5:=by kernel_rfl
theorem cells39:Tryz.prog.cellsOf 39=8:=by kernel_rfl
theorem cells41:Tryz.prog.cellsOf 41=3:=by kernel_rfl
theorem cells43:Tryz.prog.cellsOf 43=16:=by kernel_rfl
theorem cells45:Tryz.prog.cellsOf 45=34:=by kernel_rfl
theorem cells104:Tryz.prog.cellsOf 104=4:=by kernel_rfl
theorem trd_nums (h:Trd enc W n 35 cs x):∃(s:SlV) (xs:List Int),cs=[.slice s.A s.n s.c]∧Jz W.heap.size W s xs:=by
 obtain ⟨s,xs,rfl,h1,_⟩:=trd_slice (α:=Int) (fun y _=>.int .u64 y) (fun _=>True) Tryz.underlying35 cells23 (by omega) (fun n cs x hl h=>by
  obtain ⟨a,rfl,_⟩:=trd_u64 h
  exact ⟨a,fun i hi=>by
   obtain rfl:i=0:=by omega
   rfl,trivial⟩) h
 exact ⟨s,xs,rfl,h1⟩
theorem drop_all {cs:List Value} {k:Nat} (h:cs.length=k):cs.drop k=[]:=by rw [←h];exact List.drop_length
theorem trd_ent (h:Trd enc W n 104 cs x):∃e:Ent,cs=[.int .u64 e.term,.int .u64 e.index,.int .i64 e.kind,.string e.data]∧0≤e.term∧e.term<18446744073709551616∧0≤e.index∧e.index<18446744073709551616:=by
 have hl:=drop_all ((trd_len Tryz.underlying104 h).trans cells104);obtain ⟨_,_,h0⟩:=fld Tryz.underlying104 h 0 0 cells23 rfl rfl rfl;obtain ⟨_,_,h1⟩:=fld Tryz.underlying104 h 1 1 cells23 rfl rfl rfl;obtain ⟨_,_,h2⟩:=fld Tryz.underlying104 h 2 2 cells3 rfl rfl rfl;obtain ⟨_,_,h3⟩:=fld Tryz.underlying104 h 3 3 cells9 rfl rfl rfl;obtain ⟨a,ea,a0,a1⟩:=trd_u64 h0;obtain ⟨b,eb,b0,b1⟩:=trd_u64 h1;obtain ⟨c,ec⟩:=trd_i64 h2;obtain ⟨d,ed⟩:=trd_str h3;refine ⟨⟨a,b,c,d⟩,?_,a0,a1,b0,b1⟩;have e:=Jx ea;rw [Jx eb,Jx ec,Jx ed,hl] at e;exact e
theorem trd_ents (h:Trd enc W n 34 cs x):∃(s:SlV) (es:List Ent),cs=[.slice s.A s.n s.c]∧Jh W.heap.size W s es∧AllR es:=
 trd_slice (α:=Ent) entCell (fun e=>0≤e.term∧e.term<18446744073709551616∧0≤e.index∧e.index<18446744073709551616) Tryz.underlying34 cells104 (by omega) (fun n cs x hl h=>by
  obtain ⟨e,rfl,h1⟩:=trd_ent h;refine ⟨e,fun i hi=>?_,h1⟩;match i,hi with
  |0,_=>rfl
  |1,_=>rfl
  |2,_=>rfl
  |3,_=>rfl
  |(k+4),hk=>omega) h
theorem trd_conf (h:Trd enc W n 37 cs x):∃(v:CfV) (c:Conf),cs=[.slice v.vo.A v.vo.n v.vo.c,.slice v.le.A v.le.n v.le.c,.slice v.ou.A v.ou.n v.ou.c,.slice v.ne.A v.ne.n v.ne.c,.bool v.auto]∧v.Raw W.heap.size W c:=by
 have hl:=drop_all ((trd_len Tryz.underlying37 h).trans cells37);obtain ⟨_,_,h0⟩:=fld Tryz.underlying37 h 0 0 cells35 rfl rfl rfl;obtain ⟨_,_,h1⟩:=fld Tryz.underlying37 h 1 1 cells35 rfl rfl rfl;obtain ⟨_,_,h2⟩:=fld Tryz.underlying37 h 2 2 cells35 rfl rfl rfl;obtain ⟨_,_,h3⟩:=fld Tryz.underlying37 h 3 3 cells35 rfl rfl rfl;obtain ⟨_,_,h4⟩:=fld Tryz.underlying37 h 4 4 cells4 rfl rfl rfl;obtain ⟨s0,x0,e0,r0⟩:=trd_nums h0;obtain ⟨s1,x1,e1,r1⟩:=trd_nums h1;obtain ⟨s2,x2,e2,r2⟩:=trd_nums h2;obtain ⟨s3,x3,e3,r3⟩:=trd_nums h3;obtain ⟨b,e4⟩:=trd_bool h4;refine ⟨⟨s0,s1,s2,s3,b⟩,⟨x0,x1,x2,x3,b⟩,?_,r0,r1,r2,r3,rfl⟩;have e:=Jx e0;rw [Jx e1,Jx e2,Jx e3,Jx e4,hl] at e;exact e
theorem trd_snap (h:Trd enc W n 39 cs x):∃(v:SnV) (s:Snap),cs=v.cells.toList∧v.Raw W.heap.size W s∧0≤s.index∧s.index<18446744073709551616∧0≤s.term∧s.term<18446744073709551616:=by
 have hl:=drop_all ((trd_len Tryz.underlying39 h).trans cells39);obtain ⟨_,_,h0⟩:=fld Tryz.underlying39 h 0 0 cells9 rfl rfl rfl;obtain ⟨_,_,h1⟩:=fld Tryz.underlying39 h 1 1 cells23 rfl rfl rfl;obtain ⟨_,_,h2⟩:=fld Tryz.underlying39 h 2 2 cells23 rfl rfl rfl;obtain ⟨_,_,h3⟩:=fld Tryz.underlying39 h 3 3 cells37 rfl rfl rfl;obtain ⟨d,e0⟩:=trd_str h0;obtain ⟨i,e1,i0,i1⟩:=trd_u64 h1;obtain ⟨t,e2,t0,t1⟩:=trd_u64 h2;obtain ⟨v,c,e3,hc⟩:=trd_conf h3;refine ⟨⟨d,i,t,v⟩,⟨d,i,t,c⟩,?_,⟨rfl,rfl,rfl,hc⟩,i0,i1,t0,t1⟩;have e:=Jx e0;rw [Jx e1,Jx e2,Jx e3,hl] at e;exact e
theorem trd_hard (h:Trd enc W n 41 cs x):∃x y z:Int,cs=[.int .u64 x,.int .u64 y,.int .u64 z]:=by
 have hl:=drop_all ((trd_len Tryz.underlying41 h).trans cells41);obtain ⟨_,_,h0⟩:=fld Tryz.underlying41 h 0 0 cells23 rfl rfl rfl;obtain ⟨_,_,h1⟩:=fld Tryz.underlying41 h 1 1 cells23 rfl rfl rfl;obtain ⟨_,_,h2⟩:=fld Tryz.underlying41 h 2 2 cells23 rfl rfl rfl;obtain ⟨a,e0,_⟩:=trd_u64 h0;obtain ⟨b,e1,_⟩:=trd_u64 h1;obtain ⟨c,e2,_⟩:=trd_u64 h2;refine ⟨a,b,c,?_⟩;have e:=Jx e0;rw [Jx e1,Jx e2,hl] at e;exact e
theorem trd_id (h:Trd enc W n 33 cs x):∃x y:Int,cs=[.int .u64 x,.int .u64 y]∧0≤x∧x<18446744073709551616∧0≤y∧y<18446744073709551616:=by
 have hl:=drop_all ((trd_len Tryz.underlying33 h).trans cells33);obtain ⟨_,_,h0⟩:=fld Tryz.underlying33 h 0 0 cells23 rfl rfl rfl;obtain ⟨_,_,h1⟩:=fld Tryz.underlying33 h 1 1 cells23 rfl rfl rfl;obtain ⟨a,e0,a0,a1⟩:=trd_u64 h0;obtain ⟨b,e1,b0,b1⟩:=trd_u64 h1;refine ⟨a,b,?_,a0,a1,b0,b1⟩;have e:=Jx e0;rw [Jx e1,hl] at e;exact e
theorem trd_sc (h:Trd enc W n 43 cs x):∃(v:Jd) (c:SCall),cs=v.cells.toList∧v.Raw W.heap.size W c∧c.In:=by
 have hl:=drop_all ((trd_len Tryz.underlying43 h).trans cells43);obtain ⟨_,_,h0⟩:=fld Tryz.underlying43 h 0 0 cells3 rfl rfl rfl;obtain ⟨_,_,h1⟩:=fld Tryz.underlying43 h 1 1 cells23 rfl rfl rfl;obtain ⟨_,_,h2⟩:=fld Tryz.underlying43 h 2 2 cells23 rfl rfl rfl;obtain ⟨_,_,h3⟩:=fld Tryz.underlying43 h 3 3 cells23 rfl rfl rfl;obtain ⟨_,_,h4⟩:=fld Tryz.underlying43 h 4 4 cells34 rfl rfl rfl;obtain ⟨_,_,h5⟩:=fld Tryz.underlying43 h 5 5 cells39 rfl rfl rfl;obtain ⟨_,_,h6⟩:=fld Tryz.underlying43 h 6 13 cells41 rfl rfl rfl;obtain ⟨k,e0⟩:=trd_i64 h0;obtain ⟨a,e1,a0,a1⟩:=trd_u64 h1;obtain ⟨b,e2,b0,b1⟩:=trd_u64 h2;obtain ⟨c,e3,c0,c1⟩:=trd_u64 h3;obtain ⟨s,es,e4,hs,hr⟩:=trd_ents h4;obtain ⟨v,sn,e5,hv,i0,i1,t0,t1⟩:=trd_snap h5;obtain ⟨p,q,r,e6⟩:=trd_hard h6;refine ⟨⟨k,a,b,c,s,v,p,q,r⟩,⟨k,a,b,c,es,sn⟩,?_,⟨rfl,rfl,rfl,rfl,hs,hv⟩,a0,a1,b0,b1,c0,c1,hr,i0,i1,t0,t1⟩;have e:=Jx e0;rw [Jx e1,Jx e2,Jx e3,Jx e4,Jx e5,Jx e6,hl] at e;exact e
theorem trd_lc (h:Trd enc W n 45 cs x):∃(v:Jc) (c:LCall),cs=v.cells.toList∧v.Raw W.heap.size W c∧c.In:=by
 have hl:=drop_all ((trd_len Tryz.underlying45 h).trans cells45);obtain ⟨_,_,h0⟩:=fld Tryz.underlying45 h 0 0 cells3 rfl rfl rfl;obtain ⟨_,_,h1⟩:=fld Tryz.underlying45 h 1 1 cells23 rfl rfl rfl;obtain ⟨_,_,h2⟩:=fld Tryz.underlying45 h 2 2 cells23 rfl rfl rfl;obtain ⟨_,_,h3⟩:=fld Tryz.underlying45 h 3 3 cells23 rfl rfl rfl;obtain ⟨_,_,h4⟩:=fld Tryz.underlying45 h 4 4 cells4 rfl rfl rfl;obtain ⟨_,_,h5⟩:=fld Tryz.underlying45 h 5 5 cells33 rfl rfl rfl;obtain ⟨_,_,h6⟩:=fld Tryz.underlying45 h 6 7 cells33 rfl rfl rfl;obtain ⟨_,_,h7⟩:=fld Tryz.underlying45 h 7 9 cells34 rfl rfl rfl;obtain ⟨_,_,h8⟩:=fld Tryz.underlying45 h 8 10 cells39 rfl rfl rfl;obtain ⟨_,_,h9⟩:=fld Tryz.underlying45 h 9 18 cells43 rfl rfl rfl;obtain ⟨k,e0⟩:=trd_i64 h0;obtain ⟨a,e1,a0,a1⟩:=trd_u64 h1;obtain ⟨b,e2,b0,b1⟩:=trd_u64 h2;obtain ⟨c,e3,c0,c1⟩:=trd_u64 h3;obtain ⟨f,e4⟩:=trd_bool h4;obtain ⟨p,q,e5,p0,p1,q0,q1⟩:=trd_id h5;obtain ⟨r,s,e6,r0,r1,s0,s1⟩:=trd_id h6;obtain ⟨l,es,e7,hs,hr⟩:=trd_ents h7;obtain ⟨v,sn,e8,hv,i0,i1,t0,t1⟩:=trd_snap h8;obtain ⟨u,st,e9,hu,hi⟩:=trd_sc h9;refine ⟨⟨k,a,b,c,f,p,q,r,s,l,v,u⟩,⟨k,a,b,c,f,p,q,r,s,es,sn,st⟩,?_,⟨rfl,rfl,rfl,rfl,rfl,rfl,rfl,rfl,rfl,hs,hv,hu⟩,a0,a1,b0,b1,c0,c1,p0,p1,q0,q1,r0,r1,s0,s1,hr,i0,i1,t0,t1,hi⟩;have e:=Jx e0;rw [Jx e1,Jx e2,Jx e3,Jx e4,Jx e5,Jx e6,Jx e7,Jx e8,Jx e9,hl] at e;exact e
theorem at_cells {a:Array Value} {k:Nat} (h:a.size=k) (i:Nat) (hi:i<k):a.toList[i]? =some (a.getD i undef):=by
 rw [Array.getElem?_toList,Array.getD_eq_getD_getElem?,Array.getElem?_eq_getElem (h ▸hi)];rfl
theorem trd_scs (h:Trd enc W n 22 cs x):∃(s:SlV) (V:Nat→Jd) (l:List SCall),cs=[.slice s.A s.n s.c]∧RawSC W.heap.size W s V l∧∀j,j<l.length→(l.getD j default).In:=by
 haveI:Inhabited (Jd×SCall):=⟨⟨⟨0,0,0,0,SlV.nil,⟨⟨#[]⟩,0,0,⟨SlV.nil,SlV.nil,SlV.nil,SlV.nil,false⟩⟩,0,0,0⟩,default⟩⟩
 obtain ⟨s,ys,rfl,h1,h2⟩:=trd_slice (α:=Jd×SCall) (fun y i=>y.1.cells.getD i undef) (fun y=>y.1.Raw W.heap.size W y.2∧y.2.In) Tryz.underlying22 cells43 (by omega) (fun n cs x hl h=>by
  obtain ⟨v,c,rfl,h1,h2⟩:=trd_sc h
  exact ⟨(v,c),at_cells (by rfl),h1,h2⟩) h
 have hg:∀j,j<(ys.map (·.2)).length→(ys.map (·.2)).getD j default=(ys.getD j default).2:=fun j hj=>by
  have hj':j<ys.length:=by simpa using hj
  simp [List.getD,hj']
 refine ⟨s,fun j=>(ys.getD j default).1,ys.map (·.2),rfl,⟨by simpa using h1,fun j hj=>?_⟩,fun j hj=>?_⟩
 ·rw [hg j hj];exact (h2 j (by simpa using hj)).1
 ·rw [hg j hj];exact (h2 j (by simpa using hj)).2
theorem trd_lcs (h:Trd enc W n 24 cs x):∃(s:SlV) (V:Nat→Jc) (l:List LCall),cs=[.slice s.A s.n s.c]∧RawLC W.heap.size W s V l∧∀j,j<l.length→(l.getD j default).In:=by
 haveI:Inhabited (Jc×LCall):=⟨⟨⟨0,0,0,0,false,0,0,0,0,SlV.nil,⟨⟨#[]⟩,0,0,⟨SlV.nil,SlV.nil,SlV.nil,SlV.nil,false⟩⟩,⟨0,0,0,0,SlV.nil,⟨⟨#[]⟩,0,0,⟨SlV.nil,SlV.nil,SlV.nil,SlV.nil,false⟩⟩,0,0,0⟩⟩,default⟩⟩
 obtain ⟨s,ys,rfl,h1,h2⟩:=trd_slice (α:=Jc×LCall) (fun y i=>y.1.cells.getD i undef) (fun y=>y.1.Raw W.heap.size W y.2∧y.2.In) Tryz.underlying24 cells45 (by omega) (fun n cs x hl h=>by
  obtain ⟨v,c,rfl,h1,h2⟩:=trd_lc h
  exact ⟨(v,c),at_cells (by rfl),h1,h2⟩) h
 have hg:∀j,j<(ys.map (·.2)).length→(ys.map (·.2)).getD j default=(ys.getD j default).2:=fun j hj=>by
  have hj':j<ys.length:=by simpa using hj
  simp [List.getD,hj']
 refine ⟨s,fun j=>(ys.getD j default).1,ys.map (·.2),rfl,⟨by simpa using h1,fun j hj=>?_⟩,fun j hj=>?_⟩
 ·rw [hg j hj];exact (h2 j (by simpa using hj)).1
 ·rw [hg j hj];exact (h2 j (by simpa using hj)).2
end
set_option maxRecDepth 100000 in
theorem fnLog_lifted (os:Os) (started:os.Started) (H:Type) (enc:TypeId×Value→H):
  ReturnsInHanded {} Tryz.checked os 3 .any (Rows.fnLogSpec.pre6 enc Tryz.prog Tryz.f3 Rows.fnLogRow.domain false) (Rows.fnLogSpec.post enc Tryz.prog Tryz.f3 false true false false):=by
 refine returnsInHanded_of_change (C:=Tryz.checked) Tryz.own started (by kernel_rfl) Tryz.func3
  (ChangeSpec.witness6 (enc:=enc) (C:=Tryz.checked) false ⟨#[],#[.slice none 0 0,.int .u64 0,.slice none 0 0],[]⟩ 8 (by kernel_rfl) (by kernel_rfl) (by kernel_rfl) (by kernel_rfl)) ?_
 intro W base args ds gs before hval0 hW hcnd _;have hval:∀(j:Nat) t v,Tryz.f3.params[j]? =some t→args[j]? =some v→Value.okWide Tryz.prog W .any base t v:=hval0;have hW':=hW;obtain ⟨p,q,hA0,hV,rfl,hfz,hnd⟩:=hW;have hA:DataW.TrodAll enc Tryz.prog W 0 (fun _=>true) true Tryz.f3.params.toList args.toList ds p:=hA0;rw [Tryz.params3] at hA hval;obtain ⟨v0,v1,v2,d0,d1,d2,p0,p1,p2,rfl,rfl,rfl,h0,h1,h2⟩:=trodAll_three hA;obtain ⟨rfl,rfl⟩:=trodVars_none hV;obtain ⟨a,rfl,rfl,rfl,wa⟩:=open_int Tryz.underlying23 (hval 1 23 v1 rfl rfl) h1;obtain ⟨A0,n0,c0,rfl⟩:=okWide_slice Tryz.underlying22 (hval 0 22 v0 rfl rfl);obtain ⟨A2,n2,c2,rfl⟩:=okWide_slice Tryz.underlying24 (hval 2 24 v2 rfl rfl);have h0k:=h0;have h2k:=h2;obtain ⟨_,h0⟩:=h0;obtain ⟨_,h2⟩:=h2;clear hA0 hval0;simp only [List.append_nil] at hW';have hlt0:∀x∈p0,x.block<W.heap.size:=fun x hx=>hW'.lt x (by simp [hx]);have hlt2:∀x∈p2,x.block<W.heap.size:=fun x hx=>hW'.lt x (by simp [hx]);obtain ⟨bs,VB,bl,eb,hb,hbi⟩:=trd_scs h0;obtain ⟨ls,VL,cl,el,hl,hli⟩:=trd_lcs h2;obtain ⟨rfl,rfl,rfl⟩:A0=bs.A∧n0=bs.n∧c0=bs.c:=by simpa [Value.cells] using eb
 obtain ⟨rfl,rfl,rfl⟩:A2=ls.A∧n2=ls.n∧c2=ls.c:=by simpa [Value.cells] using el
 have wa':=wa;simp [Lit.wf,IntKind.min,IntKind.max,IntKind.signed,IntKind.bits] at wa';refine (fnLog3 (Nat.le_refl _) (Nat.le_refl _) hb hbi hl hli (by omega) (by omega)).mono fun e W' ⟨he,hu⟩=>?_;subst he;have bel:=hu.below;refine ⟨_,rfl,?_⟩
 refine ⟨_,_,_,[],p0++([]++p2),[],hW',trodAll_mk1 (shut_bool Tryz.underlying4 true),
  trodAll_mk3 (Below.trod Tryz.laidOut (by kernel_rfl) (of_decide_eq_true (by kernel_rfl)) h0k bel hlt0) (shut_int Tryz.underlying23 wa) (Below.trod Tryz.laidOut (by kernel_rfl) (of_decide_eq_true (by kernel_rfl)) h2k bel hlt2),
  rfl,bel.frame _,fun h=>by cases h⟩
theorem fnLog_holds:Rows.FnLogSaid:=
 OpenClaim.holds_of_wide 3 Tryz.f3 rfl rfl rfl rfl rfl rfl rfl ⟨rfl,rfl,rfl,rfl,rfl⟩ rfl rfl rfl rfl rfl (by kernel_rfl) Tryz.func3 (by kernel_rfl)
  (of_decide_eq_true (by kernel_rfl)) (by unfold Func.isWrapper;first|(rw [if_pos (by decide+kernel)];kernel_rfl)|(rw [if_neg (by decide+kernel)];exact ⟨rfl,rfl⟩))
  (fun os started H enc _=>fnLog_lifted os started H enc)
end Go.Proofs.YtmagnkjodjmojaaGreat
