/- A part of the proof of FnLog: laws and walks, with their conditions written at each. -/
import Derived.Test.YtmagnkjodjmojaaGreatQ10
import Derived.Test.YtmagnkjodjmojaaGreatQ15
set_option maxRecDepth 20000
set_option maxHeartbeats 4000000
set_option linter.all false
namespace Go.Proofs.YtmagnkjodjmojaaGreat
open Go.RowKit
structure Jc where
 kind:Int
 a:Int
 b:Int
 c:Int
 flag:Bool
 atT:Int
 atI:Int
 pT:Int
 pI:Int
 es:SlV
 sn:SnV
 st:Jd
def Jc.cells (v:Jc):Array Value:=#[.int .i64 v.kind,.int .u64 v.a,.int .u64 v.b,.int .u64 v.c,.bool v.flag,.int .u64 v.atT,.int .u64 v.atI,.int .u64 v.pT,.int .u64 v.pI,.slice v.es.A v.es.n v.es.c,
 .string v.sn.data,.int .u64 v.sn.index,.int .u64 v.sn.term,.slice v.sn.cf.vo.A v.sn.cf.vo.n v.sn.cf.vo.c,.slice v.sn.cf.le.A v.sn.cf.le.n v.sn.cf.le.c,.slice v.sn.cf.ou.A v.sn.cf.ou.n v.sn.cf.ou.c,.slice v.sn.cf.ne.A v.sn.cf.ne.n v.sn.cf.ne.c,.bool v.sn.cf.auto,
 .int .i64 v.st.kind,.int .u64 v.st.a,.int .u64 v.st.b,.int .u64 v.st.c,.slice v.st.es.A v.st.es.n v.st.es.c,
 .string v.st.sn.data,.int .u64 v.st.sn.index,.int .u64 v.st.sn.term,.slice v.st.sn.cf.vo.A v.st.sn.cf.vo.n v.st.sn.cf.vo.c,.slice v.st.sn.cf.le.A v.st.sn.cf.le.n v.st.sn.cf.le.c,.slice v.st.sn.cf.ou.A v.st.sn.cf.ou.n v.st.sn.cf.ou.c,.slice v.st.sn.cf.ne.A v.st.sn.cf.ne.n v.st.sn.cf.ne.c,.bool v.st.sn.cf.auto,
 .int .u64 v.st.x,.int .u64 v.st.y,.int .u64 v.st.z]
structure LCall.Ok (c:LCall):Prop where
 a0:0≤c.a
 a1:c.a<18446744073709551616
 b0:0≤c.b
 b1:c.b<18446744073709551616
 c0:0≤c.c
 c1:c.c<18446744073709551616
 at0:0≤c.atT
 at1:c.atT<18446744073709551616
 ai0:0≤c.atI
 ai1:c.atI<18446744073709551616
 pt0:0≤c.pT
 pt1:c.pT<18446744073709551616
 pi0:0≤c.pI
 pi1:c.pI<18446744073709551616
 es:AllU c.es
 len:c.es.length≤60
 i0:0≤c.snap.index
 i1:c.snap.index<18446744073709551616
 t0:0≤c.snap.term
 t1:c.snap.term<18446744073709551616
 sm:c.snap.small
 st:c.st.Ok
structure Jc.Rd (N:Nat) (w:World) (v:Jc) (c:LCall):Prop where
 kind:v.kind=c.kind
 a:v.a=c.a
 b:v.b=c.b
 cc:v.c=c.c
 flag:v.flag=c.flag
 atT:v.atT=c.atT
 atI:v.atI=c.atI
 pT:v.pT=c.pT
 pI:v.pI=c.pI
 es:Jh N w v.es c.es
 sn:v.sn.Rd N w c.snap
 st:v.st.Rd N w c.st
theorem Jc.Rd.fr {N:Nat} {w w':World} {v:Jc} {c:LCall} (h:v.Rd N w c) (hf:Fr N w w'):v.Rd N w' c:=⟨h.kind,h.a,h.b,h.cc,h.flag,h.atT,h.atI,h.pT,h.pI,h.es.fr hf,h.sn.fr hf,h.st.fr hf⟩
structure Ja where
 err:Int
 n:Int
 m:Int
 flag:Bool
 atT:Int
 atI:Int
 es:SlV
 sn:SnV
 com:Int
 apg:Int
 apd:Int
 paused:Bool
def Ja.nil:Ja:=⟨0,0,0,false,0,0,⟨none,0,0⟩,SnV.nil,0,0,0,false⟩
def Ja.cells (v:Ja):Array Value:=#[.int .i64 v.err,.int .u64 v.n,.int .u64 v.m,.bool v.flag,.int .u64 v.atT,.int .u64 v.atI,.slice v.es.A v.es.n v.es.c,.slice none 0 0,
 .string v.sn.data,.int .u64 v.sn.index,.int .u64 v.sn.term,.slice v.sn.cf.vo.A v.sn.cf.vo.n v.sn.cf.vo.c,.slice v.sn.cf.le.A v.sn.cf.le.n v.sn.cf.le.c,.slice v.sn.cf.ou.A v.sn.cf.ou.n v.sn.cf.ou.c,.slice v.sn.cf.ne.A v.sn.cf.ne.n v.sn.cf.ne.c,.bool v.sn.cf.auto,
 .int .u64 v.com,.int .u64 v.apg,.int .u64 v.apd,.bool v.paused,.bool false]
structure Ja.Rd (N:Nat) (w:World) (v:Ja) (A:LAns):Prop where
 err:v.err=A.err
 n:v.n=A.n
 m:v.m=A.m
 flag:v.flag=A.flag
 atT:v.atT=A.atT
 atI:v.atI=A.atI
 es:Jh N w v.es A.es
 sn:v.sn.Rd N w A.snap
theorem Ja.Rd.fr {N:Nat} {w w':World} {v:Ja} {A:LAns} (h:v.Rd N w A) (hf:Fr N w w'):v.Rd N w' A:=⟨h.err,h.n,h.m,h.flag,h.atT,h.atI,h.es.fr hf,h.sn.fr hf⟩
theorem Ja.Js (N:Nat) (w:World):Ja.nil.Rd N w LAns.none:=⟨rfl,rfl,rfl,rfl,rfl,rfl,Jg.nil none,SnV.Js N w⟩
theorem Ja.one (v:Ja):v.cells.all (·.oneCell')=true:=by simp [Ja.cells,Value.oneCell']
theorem inf48:(Tryz.prog.info? 48).map (·.size)=some 21:=by kernel_rfl
theorem Ja.inf (v:Ja):(Tryz.prog.info? 48).map (·.size)=some v.cells.size:=inf48
def logW (v:Jc) (w:World):World:=((w.alloc (.cells v.cells 45)).alloc (.cells Ja.nil.cells 48)).alloc (.cells Ja.nil.cells 48)
structure LogB (v:Jc) (b:Nat) (w:World) (V:Ja) (r:Nat) (J:LId):Prop where
 b0:Blk w b 45 v.cells
 b1:Blk w (b+1) 48 Ja.nil.cells
 b2:Blk w (b+1+1) 48 V.cells
 br:Blk w r 94 #[.pointer (some ⟨J.I.ms,0,none⟩),.pointer (some ⟨J.l,0,none⟩)]
section
variable {N:Nat} {w w' w'':World} {J J':LId} {g g':LgL} {v:Jc} {c:LCall} {A:LAns} {b r:Nat} {V:Ja}
theorem Jn (v:Jc) (w:World) (hr:Blk w r 94 #[.pointer (some ⟨J.I.ms,0,none⟩),.pointer (some ⟨J.l,0,none⟩)]):LogB v w.heap.size (logW v w) Ja.nil r J∧Upd No w (logW v w):=
 ⟨⟨((Blk.new_ rfl).alloc _).alloc _,(Blk.new_ (by simp)).alloc _,Blk.new_ (by simp),((hr.alloc _).alloc _).alloc _⟩,(((Upd.refl No w).alloc _).alloc _).alloc _⟩
theorem LogB.lu (h:LogB v b w V r J) (hu:Upd (LU N w) w w'):LogB v b w' V r J:=⟨LU.blk hu h.b0 rfl,LU.blk hu h.b1 rfl,LU.blk hu h.b2 rfl,LU.blk hu h.br rfl⟩
theorem LogB.set (h:LogB v b w V r J) (j:Nat) (x:Value) (V':Ja) (hV:V.cells.setIfInBounds j x=V'.cells):LogB v b (w.setCell ⟨b+1+1,j,none⟩ x) V' r J:=
 ⟨h.b0.far (by simp only;omega) x,h.b1.far (by simp only;omega) x,hV ▸h.b2.set_ j x,h.br.far (fun e=>(h.br.ne_ h.b2 (by decide)) e) x⟩
theorem LogB.upd (h:LogB v b w V r J) (hN:N≤b) (x:Value) (j:Nat):Upd (fun k=>k=b+1+1) w (w.setCell ⟨b+1+1,j,none⟩ x)∧Fr N w (w.setCell ⟨b+1+1,j,none⟩ x):=by
 have hu:Upd (fun k=>k=b+1+1) w (w.setCell ⟨b+1+1,j,none⟩ x):=(Upd.refl (fun k=>k=b+1+1) w).setIn rfl j x;exact ⟨hu,hu.fr (by rintro k rfl;exact h.b2.mutb (by omega) rfl)⟩
theorem LogB.many {w1 w2:World} {V1:Ja} (h1:LogB v b w1 V1 r J) (hu:Upd (fun k=>k=b+1+1) w1 w2) (hN:N≤b) (hb:w.heap.size≤b) (hR:Jf N w1 J' g') (hS:Upd (LU N w) w w1):
  Jf N w2 J' g'∧Upd (LU N w) w w2∧Fr N w1 w2:=by
 have hf:Fr N w1 w2:=hu.fr (by rintro k rfl;exact h1.b2.mutb (by omega) rfl)
 refine ⟨hR.upd hu hf (by
  rintro k T rfl ht hl;by_cases e:T=48
  ·subst e;cases hl
  ·exact ht.ne_ h1.b2.ty e rfl),hS.trans hu (by rintro k rfl;exact .inr (by omega)),hf⟩
theorem LogB.fin {w2 w4:World} {V2:Ja} {A2:LAns} (hB:LogB v b w2 V2 r J) (hN:N≤b) (hb:w.heap.size≤b) (hV:V2.Rd N w2 A2) (hR:Jf N w2 J' g') (hS:Upd (LU N w) w w2) {e:Int}
  (hu4:Upd (fun k=>k=b+1) (w2.setCell ⟨b+1+1,0,none⟩ (.int .i64 e)) w4):({V2 with err:=e}:Ja).Rd N w4 {A2 with err:=e}∧Jf N w4 J' g'∧Upd (LU N w) w w4:=by
 have h1:=hB.upd hN (.int .i64 e) 0;have h2:=hB.many (w:=w) h1.1 hN hb hR hS;have hb1:Blk (w2.setCell ⟨b+1+1,0,none⟩ (.int .i64 e)) (b+1) 48 Ja.nil.cells:=hB.b1.far (by simp only;omega) _;have hf4:Fr N (w2.setCell ⟨b+1+1,0,none⟩ (.int .i64 e)) w4:=hu4.fr (by rintro k rfl;exact hb1.mutb (by omega) rfl)
 have h3:=h2.1.upd hu4 hf4 (by
  rintro k T rfl ht hl;by_cases e:T=48
  ·subst e;cases hl
  ·exact ht.ne_ hb1.ty e rfl)
 exact ⟨⟨rfl,hV.n,hV.m,hV.flag,hV.atT,hV.atI,(hV.es.fr h1.2).fr hf4,(hV.sn.fr h1.2).fr hf4⟩,h3,h2.2.1.trans hu4 (by rintro k rfl;exact .inr (by omega))⟩
theorem Ja.ret {fn:Func} {R:Ending→World→Prop} {a:Act} {w:World} {p:Tmp} (V:Ja) (hr:fn.results= #[.cell p 48]) (g:Nat) (hp:a.tmps.getD p undef=.pointer (some ⟨g,0,none⟩)) (hg:Blk w g 48 V.cells) (hdf:a.defers=[]) (hR:R (.returned (.agg V.cells)) w):
  bodyPost Tryz.prog fn R .ret a w:=ret_blk hr g 48 V.cells _ hp hg Tryz.underlying48 rfl V.inf hdf hR
theorem zz1 {f i:FuncId} {xs bs:Array Value} {α:Type} {val:α→Value} {R:α→World→Prop}
  (hz:∀{Q:Value→World→Prop},(Calls Tryz.prog i bs w fun e w'=>∃v,e=.returned v∧Q v w')→Calls Tryz.prog f xs w fun e w'=>∃v,e=.returned v∧Q v w')
  (h:Calls Tryz.prog i bs w fun e w'=>∃t:α,e=.returned (val t)∧R t w'):Calls Tryz.prog f xs w fun e w'=>∃t:α,e=.returned (val t)∧R t w':=
 (hz (Q:=fun x w'=>∃t,x=val t∧R t w') (h.mono fun _ _ ⟨t,h1,h2⟩=>⟨_,h1,t,rfl,h2⟩)).mono fun _ _ ⟨_,h1,t,h2,h3⟩=>⟨t,h2 ▸h1,h3⟩
theorem zz2 {f i:FuncId} {xs bs:Array Value} {α:Type} {va vb:α→Value} {R:α→World→Prop}
  (hz:∀{Q:Value→Value→World→Prop},(Calls Tryz.prog i bs w fun e w'=>∃x y,e=.returned (.tuple #[x,y])∧Q x y w')→Calls Tryz.prog f xs w fun e w'=>∃x y,e=.returned (.tuple #[x,y])∧Q x y w')
  (h:Calls Tryz.prog i bs w fun e w'=>∃t:α,e=.returned (.tuple #[va t,vb t])∧R t w'):Calls Tryz.prog f xs w fun e w'=>∃t:α,e=.returned (.tuple #[va t,vb t])∧R t w':=
 (hz (Q:=fun x y w'=>∃t,x=va t∧y=vb t∧R t w') (h.mono fun _ _ ⟨t,h1,h2⟩=>⟨_,_,h1,t,rfl,rfl,h2⟩)).mono fun _ _ ⟨_,_,h1,t,h2,h3,h4⟩=>⟨t,by rw [h1,h2,h3],h4⟩
theorem zu {f i:FuncId} {xs bs:Array Value} {v:Value} {R:World→Prop}
  (hz:∀{Q:Value→World→Prop},(Calls Tryz.prog i bs w fun e w'=>∃v,e=.returned v∧Q v w')→Calls Tryz.prog f xs w fun e w'=>∃v,e=.returned v∧Q v w')
  (h:Calls Tryz.prog i bs w fun e w'=>e=.returned v∧R w'):Calls Tryz.prog f xs w fun e w'=>e=.returned v∧R w':=
 (zz1 (α:=Unit) (val:=fun _=>v) (R:=fun _=>R) hz (h.mono fun _ _ h=>⟨(),h⟩)).mono fun _ _ ⟨_,h⟩=>h
theorem zt {f i:FuncId} {xs bs:Array Value} {x y:Value} {R:World→Prop}
  (hz:∀{Q:Value→Value→World→Prop},(Calls Tryz.prog i bs w fun e w'=>∃x y,e=.returned (.tuple #[x,y])∧Q x y w')→Calls Tryz.prog f xs w fun e w'=>∃x y,e=.returned (.tuple #[x,y])∧Q x y w')
  (h:Calls Tryz.prog i bs w fun e w'=>e=.returned (.tuple #[x,y])∧R w'):Calls Tryz.prog f xs w fun e w'=>e=.returned (.tuple #[x,y])∧R w':=
 (zz2 (α:=Unit) (va:=fun _=>x) (vb:=fun _=>y) (R:=fun _=>R) hz (h.mono fun _ _ h=>⟨(),h⟩)).mono fun _ _ ⟨_,h⟩=>h
def LgR (N:Nat) (w:World) (J:LId) (g:LgL) (w':World):Prop:=(∃J',J'.as J∧Jf N w' J' g)∧Upd (LU N w) w w'
theorem LgR.ms (h:Jf N w J g) (hR:Jf N w' J g) (hu:Upd (fun k=>k=J.I.ms) w w'):LgR N w J g w':=⟨⟨J,rfl,hR⟩,h.lu_ms hu⟩
theorem LgR.no (hR:Jf N w' J g) (hu:Upd No w w'):LgR N w J g w':=⟨⟨J,rfl,hR⟩,hu.ofNo⟩
theorem LgR.same (h:Jf N w J g) (e:w=w'):LgR N w J g w':=⟨⟨J,rfl,e ▸h⟩,e ▸Upd.refl _ _⟩
theorem c10 (h:Jf N w J g) (ho:g.Ok):Calls Tryz.prog 87 #[.pointer (some ⟨J.l,0,none⟩)] w fun e w'=>e=.returned (.int .u64 g.first)∧LgR N w J g w':=
 zu z87 ((lgFirst h ho).mono fun _ _ ⟨h1,h2,h3⟩=>⟨h1,LgR.ms h h2 h3⟩)
theorem c11 (h:Jf N w J g) (ho:g.Ok):Calls Tryz.prog 88 #[.pointer (some ⟨J.l,0,none⟩)] w fun e w'=>e=.returned (.int .u64 g.last)∧LgR N w J g w':=
 zu z88 ((lgLast h ho).mono fun _ _ ⟨h1,h2,h3⟩=>⟨h1,LgR.ms h h2 h3⟩)
theorem c5 (h:Jf N w J g) (ho:g.Ok) {t i:Int}:Calls Tryz.prog 81 #[.pointer (some ⟨J.l,0,none⟩),.int .u64 t,.int .u64 i] w fun e w'=>e=.returned (.bool (g.upToDate t i))∧LgR N w J g w':=
 zu z81 ((lgUpToDate h ho).mono fun _ _ ⟨h1,h2,h3⟩=>⟨h1,LgR.ms h h2 h3⟩)
theorem c6 (h:Jf N w J g) (ho:g.Ok) {t i:Int} (h0:0≤i) (h1:i<4611686018427387904):Calls Tryz.prog 82 #[.pointer (some ⟨J.l,0,none⟩),.int .u64 t,.int .u64 i] w fun e w'=>e=.returned (.bool (g.matches t i))∧LgR N w J g w':=
 zu z82 ((lgMatch h ho h0 (by omega)).mono fun _ _ ⟨h1,h2,h3⟩=>⟨h1,LgR.ms h h2 h3⟩)
theorem c7 (h:Jf N w J g) (ho:g.Ok) {i:Int} (h0:0≤i) (h1:i<4611686018427387904):Calls Tryz.prog 83 #[.pointer (some ⟨J.l,0,none⟩),.int .u64 i] w fun e w'=>e=.returned (.tuple #[.int .u64 (g.term i).1,errV (g.term i).2])∧LgR N w J g w':=
 zt z83 ((lgTerm h ho h0 (by omega)).mono fun _ _ ⟨h1,h2,h3⟩=>⟨h1,LgR.ms h h2 h3⟩)
theorem c3 (h:Jf N w J g) (ho:g.Ok) {s:SlV} {es:List Ent} (hp:PArr N w 0 s es) (hok:AllOk' es) (hlen:es.length≤100000):Calls Tryz.prog 79 #[.pointer (some ⟨J.l,0,none⟩),.slice s.A s.n s.c] w fun e w'=>e=.returned (.int .u64 (g.conflict es))∧LgR N w J g w':=
 zu z79 ((lgConflict h ho hp hok hlen).mono fun _ _ ⟨h1,h2,h3⟩=>⟨h1,LgR.ms h h2 h3⟩)
theorem c13 (h:Jf N w J g) (ho:g.Ok) {n:Int} (hn:n≤g.last):Calls Tryz.prog 90 #[.pointer (some ⟨J.l,0,none⟩),.int .u64 n] w fun e w'=>e=.returned (.tuple #[])∧LgR N w J (g.commit n) w':=
 z90 ((lgCommit h ho hn).mono fun _ _ ⟨h1,h2,h3⟩=>⟨h1,⟨J,rfl,h2⟩,h3⟩)
theorem c14 (h:Jf N w J g) (ho:g.Ok) {t i:Int} (h0:0≤i) (h1:i<4611686018427387904):Calls Tryz.prog 91 #[.pointer (some ⟨J.l,0,none⟩),.int .u64 t,.int .u64 i] w fun e w'=>e=.returned (.bool (g.mc t i))∧LgR N w J (g.maybeCommit t i) w':=
 zu z91 ((lgMaybeCommit h ho h0 h1).mono fun _ _ ⟨h1,h2,h3⟩=>⟨h1,⟨J,rfl,h2⟩,h3⟩)
theorem c16 (h:Jf N w J g) (ho:g.Ok) (f:Bool):Calls Tryz.prog 93 #[.pointer (some ⟨J.l,0,none⟩),.bool f] w fun e w'=>e=.returned (.bool (g.hasNext f))∧LgR N w J g w':=
 zu z93 ((lgHasNext h ho f).mono fun _ _ ⟨h1,h2,h3⟩=>⟨h1,LgR.no h2 h3⟩)
theorem c17 (h:Jf N w J g) (ho:g.Ok) (f:Bool):Calls Tryz.prog 94 #[.pointer (some ⟨J.l,0,none⟩),.bool f] w fun e w'=>e=.returned (.int .u64 (g.most f))∧LgR N w J g w':=
 zu z94 ((lgMost h ho f).mono fun _ _ ⟨h1,h2⟩=>⟨h1,LgR.same h h2⟩)
theorem c18 (h:Jf N w J g) (ho:g.Ok) {a b:Int} (f:Bool) (ha:a≤g.com) (hb0:0≤b) (hb:b<4611686018427387904) (hu:g.usg<4611686018427387904):Calls Tryz.prog 95 #[.pointer (some ⟨J.l,0,none⟩),.int .u64 a,.int .u64 b,.bool f] w fun e w'=>e=.returned (.tuple #[])∧LgR N w J (g.applying a b f) w':=
 z95 ((lgApplying h ho f ha hb0 hb hu).mono fun _ _ ⟨h1,h2,h3⟩=>⟨h1,⟨J,rfl,h2⟩,h3⟩)
theorem c19 (h:Jf N w J g) (ho:g.Ok) {a b:Int} (ha:a≤g.com) (ha2:g.apd≤a) (hb0:0≤b) (hb:b<4611686018427387904):Calls Tryz.prog 96 #[.pointer (some ⟨J.l,0,none⟩),.int .u64 a,.int .u64 b] w fun e w'=>e=.returned (.tuple #[])∧LgR N w J (g.appl a b) w':=
 z96 ((lgApplied h ho ha ha2 hb0 hb).mono fun _ _ ⟨h1,h2,h3⟩=>⟨h1,⟨J,rfl,h2⟩,h3⟩)
theorem c21 (h:Jf N w J g) (ho:g.Ok):Calls Tryz.prog 98 #[.pointer (some ⟨J.l,0,none⟩)] w fun e w'=>e=.returned (.bool (decide (0<g.u.next.length)))∧LgR N w J g w':=
 zu z98 ((lgHasUNext h ho).mono fun _ _ ⟨h1,h2,h3⟩=>⟨h1,LgR.no h3 h2⟩)
theorem c22 (h:Jf N w J g):Calls Tryz.prog 99 #[.pointer (some ⟨J.l,0,none⟩)] w fun e w'=>e=.returned (.bool (decide (0<g.u.es.length)))∧LgR N w J g w':=
 zu z99 ((lgGoing h).mono fun _ _ ⟨h1,h2⟩=>⟨h1,LgR.same h h2⟩)
theorem c23 (h:Jf N w J g) (ho:g.Ok):Calls Tryz.prog 100 #[.pointer (some ⟨J.l,0,none⟩)] w fun e w'=>e=.returned (.tuple #[])∧LgR N w J g.accept w':=
 z100 ((lgAccept h ho).mono fun _ _ ⟨h1,h2,h3⟩=>⟨h1,⟨J,rfl,h2⟩,h3⟩)
theorem c24 (h:Jf N w J g) (ho:g.Ok) {t i:Int} (h0:0≤i) (h1:i<4611686018427387904):Calls Tryz.prog 101 #[.pointer (some ⟨J.l,0,none⟩),.int .u64 t,.int .u64 i] w fun e w'=>e=.returned (.tuple #[])∧LgR N w J (g.stable t i) w':=
 z101 (lgStable h ho h0 h1)
theorem c25 (h:Jf N w J g) {i:Int}:Calls Tryz.prog 102 #[.pointer (some ⟨J.l,0,none⟩),.int .u64 i] w fun e w'=>e=.returned (.tuple #[])∧LgR N w J (g.Jy i) w':=
 z102 (lgStableSnap h)
theorem c26 (h:Jf N w J g) {sn md:Nat} {s:Snap} (hs:Kf N w sn md s) (hsm:s.small) (hi0:0≤s.index) (hi:s.index<4611686018427387904):Calls Tryz.prog 103 #[.pointer (some ⟨J.l,0,none⟩),.pointer (some ⟨sn,0,none⟩)] w fun e w'=>e=.returned (.tuple #[])∧LgR N w J (g.restore s) w':=
 z103 (lgRestore h hs hsm hi0 hi)
theorem c28 (h:Jf N w J g) (ho:g.Ok):Calls Tryz.prog 107 #[.pointer (some ⟨J.l,0,none⟩)] w fun e w'=>e=.returned (.bool (g.u.has && !g.u.going))∧LgR N w J g w':=
 zu z107 ((lgHasNextSnap h ho).mono fun _ _ ⟨h1,h2,h3⟩=>⟨h1,LgR.no h3 h2⟩)
theorem c29 (h:Jf N w J g):Calls Tryz.prog 108 #[.pointer (some ⟨J.l,0,none⟩)] w fun e w'=>e=.returned (.bool g.u.has)∧LgR N w J g w':=
 zu z108 ((lgHas h).mono fun _ _ ⟨h1,h2⟩=>⟨h1,LgR.same h h2⟩)
end
section
variable {N:Nat} {w w' w'':World} {J J':LId} {g g':LgL}
theorem c1 (h:Jf N w J g) (ho:g.Ok) {t:SlV} {l:List Ent} (hp:PArr N w 0 t l) (ha:g.append l=some g') (ho':g'.Ok) (hlen:l.length≤1000) (hx0:l.length≠0→0≤idx0 l)
  (hsep:∀b o b' o',J.I.es.A=some ⟨b,o,none⟩→t.A=some ⟨b',o',none⟩→b≠b'):
  Calls Tryz.prog 75 #[.pointer (some ⟨J.l,0,none⟩),.slice t.A t.n t.c] w fun e w'=>e=.returned (.int .u64 g'.last)∧LgR N w J g' w':=
 zu z75 (lgAppend h ho hp ha ho' hlen hx0 hsep)
theorem c4 {i:Nat} {t:Int} (h:Jf N w J g) (ho:g.Ok) (hi:i<4611686018427387904):
  Calls Tryz.prog 80 #[.pointer (some ⟨J.l,0,none⟩),.int .u64 (i:Int),.int .u64 t] w fun e w'=>e=.returned (.tuple #[.int .u64 (g.byTerm t i).1,.int .u64 (g.byTerm t i).2])∧LgR N w J g w':=
 zt z80 ((lgByTerm h ho (by omega)).mono fun _ _ ⟨h1,h2,h3⟩=>⟨h1,LgR.ms h h2 h3⟩)
theorem zzID {t i:Int} (w:World):Calls Tryz.prog 156 #[.agg #[.int .u64 t,.int .u64 i]] w fun e w'=>e=.returned (.tuple #[.int .u64 t,.int .u64 i])∧Upd No w w':=by
 have U0:=qq fun (o:Obj) (n:Nat)=>((Upd.refl No w).alloc o).drewN n;go_enter Tryz.func156,Tryz.ntmps156;go_wp2_with fail
 go_quiet (fail)
 go_wp2;go_ret2;exact ⟨rfl,U0.out _ _⟩
theorem c12 (h:Jf N w J g) (ho:g.Ok):
  Calls Tryz.prog 89 #[.pointer (some ⟨J.l,0,none⟩)] w fun e w'=>e=.returned (.tuple #[.int .u64 g.lastT,.int .u64 g.last])∧LgR N w J g w':=
 z89 (Q:=LgR N w J g) ((lgLastID h ho).mono fun _ _ ⟨h1,h2,h3⟩=>⟨h1,LgR.ms h h2 h3⟩) fun w2 h2=>(zzID w2).mono fun _ w3 h3=>by
  obtain ⟨h4,h5⟩:=h3;refine ⟨h4,?_⟩;obtain ⟨⟨J',e,hR⟩,hU⟩:=h2;exact ⟨⟨J',e,hR.no h5⟩,hU.no h5⟩
theorem c8 {lo max:Int} (h:Jf N w J g) (ho:g.Ok) (h0:0≤lo) (h2:lo≤g.last+1) (h3:g.first≤lo) (hm:0≤max) (hm2:max<18446744073709551616):
  Calls Tryz.prog 84 #[.pointer (some ⟨J.l,0,none⟩),.int .u64 lo,.int .u64 max] w fun e w'=>∃t:SlV,e=.returned (.tuple #[.slice t.A t.n t.c,.nilIface])∧PArr N w' 0 t ((g.range lo (g.last+1)).take (lim (g.range lo (g.last+1)) max))∧LgR N w J g w':=
 zz2 z84 (va:=fun t:SlV=>.slice t.A t.n t.c) (vb:=fun _=>.nilIface) ((lgEntries h ho h0 h2 h3 hm hm2).mono fun _ _ ⟨t,h1,h2,h3,h4⟩=>⟨t,h1,h2,LgR.ms h h3 h4⟩)
theorem c8l {lo max:Int} (h:Jf N w J g) (ho:g.Ok) (h0:0≤lo) (h3:lo<g.first) (h2:lo≤g.last):
  Calls Tryz.prog 84 #[.pointer (some ⟨J.l,0,none⟩),.int .u64 lo,.int .u64 max] w fun e w'=>e=.returned (.tuple #[.slice none 0 0,.iface 176 (.string errCompS)])∧LgR N w J g w':=
 zt z84 ((lgEntries_low h ho h0 h3 h2).mono fun _ _ ⟨h1,h2,h3⟩=>⟨h1,LgR.ms h h2 h3⟩)
theorem c8h {lo max:Int} (h:Jf N w J g) (ho:g.Ok) (h2:g.last<lo):
  Calls Tryz.prog 84 #[.pointer (some ⟨J.l,0,none⟩),.int .u64 lo,.int .u64 max] w fun e w'=>e=.returned (.tuple #[.slice none 0 0,.nilIface])∧LgR N w J g w':=
 zt z84 ((lgEntries_high h ho h2).mono fun _ _ ⟨h1,h2,h3⟩=>⟨h1,LgR.ms h h2 h3⟩)
theorem c9 {lo hi max:Int} (h:Jf N w J g) (ho:g.Ok) (h0:0≤lo) (h1:lo≤hi) (h2:hi≤g.last+1) (h3:g.first≤lo) (hm:0≤max) (hm2:max<18446744073709551616):
  Calls Tryz.prog 86 #[.pointer (some ⟨J.l,0,none⟩),.int .u64 lo,.int .u64 hi,.int .u64 max] w fun e w'=>∃t:SlV,e=.returned (.tuple #[.slice t.A t.n t.c,.nilIface])∧PArr N w' 0 t ((g.range lo hi).take (lim (g.range lo hi) max))∧LgR N w J g w':=
 zz2 z86 (va:=fun t:SlV=>.slice t.A t.n t.c) (vb:=fun _=>.nilIface) ((lgSlice h ho h0 h1 h2 h3 hm hm2).mono fun _ _ ⟨t,h1,h2,h3,h4⟩=>⟨t,h1,h2,LgR.ms h h3 h4⟩)
theorem c9l {lo hi max:Int} (h:Jf N w J g) (ho:g.Ok) (h0:0≤lo) (h1:lo≤hi) (h3:lo<g.first):
  Calls Tryz.prog 86 #[.pointer (some ⟨J.l,0,none⟩),.int .u64 lo,.int .u64 hi,.int .u64 max] w fun e w'=>e=.returned (.tuple #[.slice none 0 0,.iface 176 (.string errCompS)])∧LgR N w J g w':=
 zt z86 ((lgSlice_low h ho h0 h1 h3).mono fun _ _ ⟨h1,h2,h3⟩=>⟨h1,LgR.ms h h2 h3⟩)
theorem c15 (h:Jf N w J g) (ho:g.Ok) (f:Bool) (hu:g.paused=false→g.u.has=false→g.apg<g.most f→g.usg<g.size∧g.first≤g.apg+1):
  Calls Tryz.prog 92 #[.pointer (some ⟨J.l,0,none⟩),.bool f] w fun e w'=>∃t:SlV,e=.returned (.slice t.A t.n t.c)∧PArr N w' 0 t (g.nextL f)∧LgR N w J g w':=
 zz1 z92 (val:=fun t:SlV=>.slice t.A t.n t.c) ((lgNext h ho f hu).mono fun _ _ ⟨t,h1,h2,h3,h4⟩=>⟨t,h1,h2,LgR.ms h h3 h4⟩)
theorem c20 (h:Jf N w J g) (ho:g.Ok):
  Calls Tryz.prog 97 #[.pointer (some ⟨J.l,0,none⟩)] w fun e w'=>∃t:SlV,e=.returned (.slice t.A t.n t.c)∧PArr N w' 0 t g.u.next∧LgR N w J g w':=
 zz1 z97 (val:=fun t:SlV=>.slice t.A t.n t.c) ((lgUNext h ho).mono fun _ _ ⟨t,h1,h2,h3,h4⟩=>⟨t,h1,h2,LgR.no h4 h3⟩)
theorem c31 (h:Jf N w J g) (ho:g.Ok):
  Calls Tryz.prog 110 #[.pointer (some ⟨J.l,0,none⟩)] w fun e w'=>∃t:SlV,e=.returned (.slice t.A t.n t.c)∧PArr N w' 0 t ((g.range g.first (g.last+1)).take (lim (g.range g.first (g.last+1)) 18446744073709551615))∧LgR N w J g w':=
 zz1 z110 (val:=fun t:SlV=>.slice t.A t.n t.c) ((lgAll h ho).mono fun _ _ ⟨t,h1,h2,h3,h4⟩=>⟨t,h1,h2,LgR.ms h h3 h4⟩)
theorem c27 (h:Jf N w J g) (ho:g.Ok) (hg:g.u.has=true∧g.u.going=false):
  Calls Tryz.prog 105 #[.pointer (some ⟨J.l,0,none⟩)] w fun e w'=>∃q:Nat,e=.returned (.pointer (some ⟨q,0,none⟩))∧(∃m,Kf N w' q m g.u.snap)∧LgR N w J g w':=
 zz1 z105 (val:=fun q:Nat=>.pointer (some ⟨q,0,none⟩)) ((lgNextSnap h ho hg).mono fun _ _ ⟨q,m,h1,h2,h3,h4⟩=>⟨q,h1,⟨m,h2⟩,LgR.no h4 h3⟩)
theorem c27n (h:Jf N w J g) (hg:g.u.has=false∨g.u.going=true):
  Calls Tryz.prog 105 #[.pointer (some ⟨J.l,0,none⟩)] w fun e w'=>e=.returned (.pointer none)∧LgR N w J g w':=
 zu z105 ((lgNextSnap_no h hg).mono fun _ _ ⟨h1,h2⟩=>⟨h1,LgR.same h h2⟩)
theorem c30 (h:Jf N w J g) (ho:g.Ok):
  Calls Tryz.prog 109 #[.pointer (some ⟨J.l,0,none⟩)] w fun e w'=>∃q:Nat,e=.returned (.tuple #[.pointer (some ⟨q,0,none⟩),.nilIface])∧(∃m,Kf N w' q m (if g.u.has=true then g.u.snap else g.s.snap))∧LgR N w J g w':=
 zz2 z109 (va:=fun q:Nat=>.pointer (some ⟨q,0,none⟩)) (vb:=fun _=>.nilIface) ((lgSnap h ho).mono fun _ _ ⟨q,m,h1,h2,h3,h4⟩=>⟨q,h1,⟨m,h2⟩,LgR.ms h h3 h4⟩)
theorem z78 {a t i:Int} {s:SlV} (w:World):Calls Tryz.prog 78 #[.int .u64 a,.int .u64 t,.int .u64 i,.slice s.A s.n s.c] w fun e w'=>e=.returned (.agg #[.int .u64 a,.int .u64 t,.int .u64 i,.slice s.A s.n s.c])∧Upd No w w':=by
 go_enter Tryz.func78,Tryz.ntmps78;go_wp2;refine bodyPost_ret (v:=.agg #[.int .u64 a,.int .u64 t,.int .u64 i,s.v]) (by simp [results,Tryz.results78,go_sem]) rfl ⟨rfl,?_⟩;exact (Upd.refl No w).alloc _
theorem z77 {Q:Value→Value→World→Prop} {x y:Value} {a t i:Int} {s:SlV} (h:∀o,Calls Tryz.prog 142 #[x,.agg #[.int .u64 a,.int .u64 t,.int .u64 i,.slice s.A s.n s.c],y] (w.alloc o) fun e w'=>∃a b,e=.returned (.tuple #[a,b])∧Q a b w'):
  Calls Tryz.prog 77 #[x,.agg #[.int .u64 a,.int .u64 t,.int .u64 i,.slice s.A s.n s.c],y] w fun e w'=>∃a b,e=.returned (.tuple #[a,b])∧Q a b w':=by
 go_enter Tryz.func77,Tryz.ntmps77;go_wp2_with fail
 refine (h _).mono ?_;rintro r w1 ⟨a,b,rfl,hq⟩;go_wp2;go_ret2;exact ⟨a,b,rfl,hq⟩
end
section
variable {N:Nat} {w w' w'':World} {J J':LId} {g g':LgL} {v:Jc} {c:LCall} {A:LAns} {rb:Nat}
theorem Jp (v:Jc) (w:World):(((w.alloc (Obj.cells #[.int .i64 v.kind,.int .u64 v.a,.int .u64 v.b,.int .u64 v.c,.bool v.flag,.int .u64 v.atT,.int .u64 v.atI,.int .u64 v.pT,.int .u64 v.pI,.slice v.es.A v.es.n v.es.c,.string v.sn.data,.int .u64 v.sn.index,.int .u64 v.sn.term,.slice v.sn.cf.vo.A v.sn.cf.vo.n v.sn.cf.vo.c,.slice v.sn.cf.le.A v.sn.cf.le.n v.sn.cf.le.c,.slice v.sn.cf.ou.A v.sn.cf.ou.n v.sn.cf.ou.c,.slice v.sn.cf.ne.A v.sn.cf.ne.n v.sn.cf.ne.c,.bool v.sn.cf.auto,.int .i64 v.st.kind,.int .u64 v.st.a,.int .u64 v.st.b,.int .u64 v.st.c,.slice v.st.es.A v.st.es.n v.st.es.c,.string v.st.sn.data,.int .u64 v.st.sn.index,.int .u64 v.st.sn.term,.slice v.st.sn.cf.vo.A v.st.sn.cf.vo.n v.st.sn.cf.vo.c,.slice v.st.sn.cf.le.A v.st.sn.cf.le.n v.st.sn.cf.le.c,.slice v.st.sn.cf.ou.A v.st.sn.cf.ou.n v.st.sn.cf.ou.c,.slice v.st.sn.cf.ne.A v.st.sn.cf.ne.n v.st.sn.cf.ne.c,.bool v.st.sn.cf.auto,.int .u64 v.st.x,.int .u64 v.st.y,.int .u64 v.st.z] 45)).alloc (Obj.cells Z48 48)).alloc (Obj.cells Z48 48))=logW v w:=rfl
theorem cell2 {o1 o2:Obj} {a o:Nat} {x:Value} (h:w.cell? ⟨a,o,none⟩=some x):((w.alloc o1).alloc o2).cell? ⟨a,o,none⟩=some x:=cell_alloc (cell_alloc h)
theorem lg_10 (h:Jf N w J g) (ho:g.Ok) (hr:Blk w rb 94 #[.pointer (some ⟨J.I.ms,0,none⟩),.pointer (some ⟨J.l,0,none⟩)]) (hv:v.Rd N w c) (hc:c.Ok) (hk:v.kind=10):
  Calls Tryz.prog 43 #[.pointer (some ⟨rb,0,none⟩),.agg v.cells] w fun e w'=>∃V:Ja,e=.returned (.agg V.cells)∧V.Rd N w' {LAns.none with n:=g.first}∧LgR N w J g w':=by
 have HF:=qq fun (w:World) (h:Jf N w J g)=>c10 h ho;have hB:=(Jn v w hr).1;have hR0:=qq (h.no (Jn v w hr).2);have hb:=Nat.le_of_lt h.lt;have hE:=Jp v w;have h0:=qq (Jn v w hr).2;have hv0:=qq (hv.fr (Jn v w hr).2.fr0);have HC:=qq hc;have HO:=qq ho;have zr:w.cell? ⟨rb,1,none⟩=some (pp J.l):=hr.cell 1;have dr:=fun (o1 o2:Obj)=>cell2 (o1:=o1) (o2:=o2) zr;rw [hk] at hE;obtain ⟨W,hW⟩:∃W,W=logW v w:=⟨_,rfl⟩;rw [←hW] at hB hR0 hE h0 hv0;have HB:=qq hB;have HE:=qq hE;have hNW:=qq (Nat.le_trans hb h0.out.size);clear h ho hB hE hW hv hc hr;unfold Jc.cells;rw [hk];go_enter Tryz.func43,Tryz.ntmps43;go_wp2_with fail
 rw [HE.out];clear zr dr;refine (HF.out _ hR0.out).mono ?_;rintro r w1 ⟨rfl,hL⟩;obtain ⟨⟨J1,e1,R1⟩,U1⟩:=hL;have HB1:=qq (HB.out.lu U1);have HR1:=qq R1;have HS1:=qq (LU.trans h0.out.ofNo U1);have E1:=qq e1;clear R1 U1 e1;have z1:w1.cell? ⟨w.heap.size+1+1,1,none⟩=some (.int .u64 0):=HB1.out.b2.cell 1;have y1:=HB1.out.b2.frozen 1;go_wp2_with fail
 obtain ⟨w2,hw2⟩:∃W,W=(w1.setCell ⟨w.heap.size+1+1,1,none⟩ (.int .u64 g.first)):=⟨_,rfl⟩;rw [←hw2];have HB2:=qq (show LogB v w.heap.size w2 {Ja.nil with n:=g.first} rb J by rw [hw2];exact (HB1.out.set 1 (.int .u64 g.first) {Ja.nil with n:=g.first} rfl));have X2:=HB1.out.many (w2:=w2) (by rw [hw2];exact ((Upd.refl (fun k=>k=w.heap.size+1+1) w1).setIn rfl 1 _)) hb (Nat.le_refl _) HR1.out HS1.out;have HR2:=qq X2.1;have HS2:=qq X2.2.1;have HF2:=qq X2.2.2;clear X2 hw2 z1 y1;have HV2:=qq (show ({Ja.nil with n:=g.first}:Ja).Rd N w2 {LAns.none with n:=g.first} from ⟨rfl,rfl,rfl,rfl,rfl,rfl,Jg.nil none,SnV.Js N w2⟩);refine (errOf0 w2).mono ?_;rintro r w3 ⟨rfl,rfl⟩;have z0:w2.cell? ⟨w.heap.size+1+1,0,none⟩=some (.int .i64 0):=HB2.out.b2.cell 0;have y0:=HB2.out.b2.frozen 0;obtain ⟨w3,hw3⟩:∃W,W=w2.setCell {block:=w.heap.size+1+1,off:=0} (Value.int IntKind.i64 (0)):=⟨_,rfl⟩;have HB3:=qq (show LogB v w.heap.size w3 { {Ja.nil with n:=g.first} with err:=0} rb J by rw [hw3];exact HB2.out.set 0 _ _ rfl);have HS:=qq (Ja.inf { {Ja.nil with n:=g.first} with err:=0});have HONE:=qq (Ja.one { {Ja.nil with n:=g.first} with err:=0});have HW3:=qq hw3;clear hw3
 go_wp2_with (first
  |(with_reducible refine Jm rfl 48 (.tmp 6) rfl (w.heap.size+1+1) { {Ja.nil with n:=g.first} with err:=0}.cells rfl 48 _ (HW3.out ▸HB3.out.b2) Tryz.underlying48 rfl HS.out ?_)
  |(with_reducible refine Jk rfl 48 (.tmp 4) (.tmp 328) rfl (w.heap.size+1) { {Ja.nil with n:=g.first} with err:=0}.cells rfl rfl 48 Ja.nil.cells (HW3.out ▸HB3.out.b1) HS.out rfl HONE.out ?_))
 intro w4 hb4 hu4;go_wp2;refine Ja.ret { {Ja.nil with n:=g.first} with err:=0} rfl (w.heap.size+1) rfl hb4 rfl ?_;have X:=HB2.out.fin hb (Nat.le_refl _) HV2.out HR2.out HS2.out hu4;exact ⟨_,rfl,X.1,⟨⟨_,E1.out,X.2.1⟩,X.2.2⟩⟩
theorem lg_11 (h:Jf N w J g) (ho:g.Ok) (hr:Blk w rb 94 #[.pointer (some ⟨J.I.ms,0,none⟩),.pointer (some ⟨J.l,0,none⟩)]) (hv:v.Rd N w c) (hc:c.Ok) (hk:v.kind=11):
  Calls Tryz.prog 43 #[.pointer (some ⟨rb,0,none⟩),.agg v.cells] w fun e w'=>∃V:Ja,e=.returned (.agg V.cells)∧V.Rd N w' {LAns.none with n:=g.last}∧LgR N w J g w':=by
 have HF:=qq fun (w:World) (h:Jf N w J g)=>c11 h ho;have hB:=(Jn v w hr).1;have hR0:=qq (h.no (Jn v w hr).2);have hb:=Nat.le_of_lt h.lt;have hE:=Jp v w;have h0:=qq (Jn v w hr).2;have hv0:=qq (hv.fr (Jn v w hr).2.fr0);have HC:=qq hc;have HO:=qq ho;have zr:w.cell? ⟨rb,1,none⟩=some (pp J.l):=hr.cell 1;have dr:=fun (o1 o2:Obj)=>cell2 (o1:=o1) (o2:=o2) zr;rw [hk] at hE;obtain ⟨W,hW⟩:∃W,W=logW v w:=⟨_,rfl⟩;rw [←hW] at hB hR0 hE h0 hv0;have HB:=qq hB;have HE:=qq hE;have hNW:=qq (Nat.le_trans hb h0.out.size);clear h ho hB hE hW hv hc hr;unfold Jc.cells;rw [hk];go_enter Tryz.func43,Tryz.ntmps43;go_wp2_with fail
 rw [HE.out];clear zr dr;refine (HF.out _ hR0.out).mono ?_;rintro r w1 ⟨rfl,hL⟩;obtain ⟨⟨J1,e1,R1⟩,U1⟩:=hL;have HB1:=qq (HB.out.lu U1);have HR1:=qq R1;have HS1:=qq (LU.trans h0.out.ofNo U1);have E1:=qq e1;clear R1 U1 e1;have z1:w1.cell? ⟨w.heap.size+1+1,1,none⟩=some (.int .u64 0):=HB1.out.b2.cell 1;have y1:=HB1.out.b2.frozen 1;go_wp2_with fail
 obtain ⟨w2,hw2⟩:∃W,W=(w1.setCell ⟨w.heap.size+1+1,1,none⟩ (.int .u64 g.last)):=⟨_,rfl⟩;rw [←hw2];have HB2:=qq (show LogB v w.heap.size w2 {Ja.nil with n:=g.last} rb J by rw [hw2];exact (HB1.out.set 1 (.int .u64 g.last) {Ja.nil with n:=g.last} rfl));have X2:=HB1.out.many (w2:=w2) (by rw [hw2];exact ((Upd.refl (fun k=>k=w.heap.size+1+1) w1).setIn rfl 1 _)) hb (Nat.le_refl _) HR1.out HS1.out;have HR2:=qq X2.1;have HS2:=qq X2.2.1;have HF2:=qq X2.2.2;clear X2 hw2 z1 y1;have HV2:=qq (show ({Ja.nil with n:=g.last}:Ja).Rd N w2 {LAns.none with n:=g.last} from ⟨rfl,rfl,rfl,rfl,rfl,rfl,Jg.nil none,SnV.Js N w2⟩);refine (errOf0 w2).mono ?_;rintro r w3 ⟨rfl,rfl⟩;have z0:w2.cell? ⟨w.heap.size+1+1,0,none⟩=some (.int .i64 0):=HB2.out.b2.cell 0;have y0:=HB2.out.b2.frozen 0;obtain ⟨w3,hw3⟩:∃W,W=w2.setCell {block:=w.heap.size+1+1,off:=0} (Value.int IntKind.i64 (0)):=⟨_,rfl⟩;have HB3:=qq (show LogB v w.heap.size w3 { {Ja.nil with n:=g.last} with err:=0} rb J by rw [hw3];exact HB2.out.set 0 _ _ rfl);have HS:=qq (Ja.inf { {Ja.nil with n:=g.last} with err:=0});have HONE:=qq (Ja.one { {Ja.nil with n:=g.last} with err:=0});have HW3:=qq hw3;clear hw3
 go_wp2_with (first
  |(with_reducible refine Jm rfl 48 (.tmp 6) rfl (w.heap.size+1+1) { {Ja.nil with n:=g.last} with err:=0}.cells rfl 48 _ (HW3.out ▸HB3.out.b2) Tryz.underlying48 rfl HS.out ?_)
  |(with_reducible refine Jk rfl 48 (.tmp 4) (.tmp 328) rfl (w.heap.size+1) { {Ja.nil with n:=g.last} with err:=0}.cells rfl rfl 48 Ja.nil.cells (HW3.out ▸HB3.out.b1) HS.out rfl HONE.out ?_))
 intro w4 hb4 hu4;go_wp2;refine Ja.ret { {Ja.nil with n:=g.last} with err:=0} rfl (w.heap.size+1) rfl hb4 rfl ?_;have X:=HB2.out.fin hb (Nat.le_refl _) HV2.out HR2.out HS2.out hu4;exact ⟨_,rfl,X.1,⟨⟨_,E1.out,X.2.1⟩,X.2.2⟩⟩
theorem lg_5 (h:Jf N w J g) (ho:g.Ok) (hr:Blk w rb 94 #[.pointer (some ⟨J.I.ms,0,none⟩),.pointer (some ⟨J.l,0,none⟩)]) (hv:v.Rd N w c) (hc:c.Ok) (hk:v.kind=5):
  Calls Tryz.prog 43 #[.pointer (some ⟨rb,0,none⟩),.agg v.cells] w fun e w'=>∃V:Ja,e=.returned (.agg V.cells)∧V.Rd N w' {LAns.none with flag:=(g.upToDate c.atT c.atI)}∧LgR N w J g w':=by
 have HQ0:=qq hv.atT;have HQ1:=qq hv.atI;have HF:=qq fun (w:World) (h:Jf N w J g)=>c5 (t:=c.atT) (i:=c.atI) h ho;have hB:=(Jn v w hr).1;have hR0:=qq (h.no (Jn v w hr).2);have hb:=Nat.le_of_lt h.lt;have hE:=Jp v w;have h0:=qq (Jn v w hr).2;have hv0:=qq (hv.fr (Jn v w hr).2.fr0);have HC:=qq hc;have HO:=qq ho;have zr:w.cell? ⟨rb,1,none⟩=some (pp J.l):=hr.cell 1;have dr:=fun (o1 o2:Obj)=>cell2 (o1:=o1) (o2:=o2) zr;rw [hk] at hE;obtain ⟨W,hW⟩:∃W,W=logW v w:=⟨_,rfl⟩;rw [←hW] at hB hR0 hE h0 hv0;have HB:=qq hB;have HE:=qq hE;have hNW:=qq (Nat.le_trans hb h0.out.size);clear h ho hB hE hW hv hc hr;unfold Jc.cells;rw [hk];go_enter Tryz.func43,Tryz.ntmps43;go_wp2_with fail
 rw [HE.out];clear zr dr;rw [HQ0.out];rw [HQ1.out];refine (HF.out _ hR0.out).mono ?_;rintro r w1 ⟨rfl,hL⟩;obtain ⟨⟨J1,e1,R1⟩,U1⟩:=hL;have HB1:=qq (HB.out.lu U1);have HR1:=qq R1;have HS1:=qq (LU.trans h0.out.ofNo U1);have E1:=qq e1;clear R1 U1 e1;have z3:w1.cell? ⟨w.heap.size+1+1,3,none⟩=some (.bool false):=HB1.out.b2.cell 3;have y3:=HB1.out.b2.frozen 3;go_wp2_with fail
 obtain ⟨w2,hw2⟩:∃W,W=(w1.setCell ⟨w.heap.size+1+1,3,none⟩ (.bool (g.upToDate c.atT c.atI))):=⟨_,rfl⟩;rw [←hw2];have HB2:=qq (show LogB v w.heap.size w2 {Ja.nil with flag:=(g.upToDate c.atT c.atI)} rb J by rw [hw2];exact (HB1.out.set 3 (.bool (g.upToDate c.atT c.atI)) {Ja.nil with flag:=(g.upToDate c.atT c.atI)} rfl));have X2:=HB1.out.many (w2:=w2) (by rw [hw2];exact ((Upd.refl (fun k=>k=w.heap.size+1+1) w1).setIn rfl 3 _)) hb (Nat.le_refl _) HR1.out HS1.out;have HR2:=qq X2.1;have HS2:=qq X2.2.1;have HF2:=qq X2.2.2;clear X2 hw2 z3 y3;have HV2:=qq (show ({Ja.nil with flag:=(g.upToDate c.atT c.atI)}:Ja).Rd N w2 {LAns.none with flag:=(g.upToDate c.atT c.atI)} from ⟨rfl,rfl,rfl,rfl,rfl,rfl,Jg.nil none,SnV.Js N w2⟩);refine (errOf0 w2).mono ?_;rintro r w3 ⟨rfl,rfl⟩;have z0:w2.cell? ⟨w.heap.size+1+1,0,none⟩=some (.int .i64 0):=HB2.out.b2.cell 0;have y0:=HB2.out.b2.frozen 0;obtain ⟨w3,hw3⟩:∃W,W=w2.setCell {block:=w.heap.size+1+1,off:=0} (Value.int IntKind.i64 (0)):=⟨_,rfl⟩;have HB3:=qq (show LogB v w.heap.size w3 { {Ja.nil with flag:=(g.upToDate c.atT c.atI)} with err:=0} rb J by rw [hw3];exact HB2.out.set 0 _ _ rfl);have HS:=qq (Ja.inf { {Ja.nil with flag:=(g.upToDate c.atT c.atI)} with err:=0});have HONE:=qq (Ja.one { {Ja.nil with flag:=(g.upToDate c.atT c.atI)} with err:=0});have HW3:=qq hw3;clear hw3
 go_wp2_with (first
  |(with_reducible refine Jm rfl 48 (.tmp 6) rfl (w.heap.size+1+1) { {Ja.nil with flag:=(g.upToDate c.atT c.atI)} with err:=0}.cells rfl 48 _ (HW3.out ▸HB3.out.b2) Tryz.underlying48 rfl HS.out ?_)
  |(with_reducible refine Jk rfl 48 (.tmp 4) (.tmp 328) rfl (w.heap.size+1) { {Ja.nil with flag:=(g.upToDate c.atT c.atI)} with err:=0}.cells rfl rfl 48 Ja.nil.cells (HW3.out ▸HB3.out.b1) HS.out rfl HONE.out ?_))
 intro w4 hb4 hu4;go_wp2;refine Ja.ret { {Ja.nil with flag:=(g.upToDate c.atT c.atI)} with err:=0} rfl (w.heap.size+1) rfl hb4 rfl ?_;have X:=HB2.out.fin hb (Nat.le_refl _) HV2.out HR2.out HS2.out hu4;exact ⟨_,rfl,X.1,⟨⟨_,E1.out,X.2.1⟩,X.2.2⟩⟩
theorem lg_6 (h:Jf N w J g) (ho:g.Ok) (hr:Blk w rb 94 #[.pointer (some ⟨J.I.ms,0,none⟩),.pointer (some ⟨J.l,0,none⟩)]) (hv:v.Rd N w c) (hc:c.Ok) (hk:v.kind=6) (hi:c.atI<4611686018427387904):
  Calls Tryz.prog 43 #[.pointer (some ⟨rb,0,none⟩),.agg v.cells] w fun e w'=>∃V:Ja,e=.returned (.agg V.cells)∧V.Rd N w' {LAns.none with flag:=(g.matches c.atT c.atI)}∧LgR N w J g w':=by
 have HQ0:=qq hv.atT;have HQ1:=qq hv.atI;have HF:=qq fun (w:World) (h:Jf N w J g)=>c6 (t:=c.atT) h ho hc.ai0 hi;have hB:=(Jn v w hr).1;have hR0:=qq (h.no (Jn v w hr).2);have hb:=Nat.le_of_lt h.lt;have hE:=Jp v w;have h0:=qq (Jn v w hr).2;have hv0:=qq (hv.fr (Jn v w hr).2.fr0);have HC:=qq hc;have HO:=qq ho;have zr:w.cell? ⟨rb,1,none⟩=some (pp J.l):=hr.cell 1;have dr:=fun (o1 o2:Obj)=>cell2 (o1:=o1) (o2:=o2) zr;rw [hk] at hE;obtain ⟨W,hW⟩:∃W,W=logW v w:=⟨_,rfl⟩;rw [←hW] at hB hR0 hE h0 hv0;have HB:=qq hB;have HE:=qq hE;have hNW:=qq (Nat.le_trans hb h0.out.size);clear h ho hB hE hW hv hc hr;unfold Jc.cells;rw [hk];go_enter Tryz.func43,Tryz.ntmps43;go_wp2_with fail
 rw [HE.out];clear zr dr;rw [HQ0.out];rw [HQ1.out];refine (HF.out _ hR0.out).mono ?_;rintro r w1 ⟨rfl,hL⟩;obtain ⟨⟨J1,e1,R1⟩,U1⟩:=hL;have HB1:=qq (HB.out.lu U1);have HR1:=qq R1;have HS1:=qq (LU.trans h0.out.ofNo U1);have E1:=qq e1;clear R1 U1 e1;have z3:w1.cell? ⟨w.heap.size+1+1,3,none⟩=some (.bool false):=HB1.out.b2.cell 3;have y3:=HB1.out.b2.frozen 3;go_wp2_with fail
 obtain ⟨w2,hw2⟩:∃W,W=(w1.setCell ⟨w.heap.size+1+1,3,none⟩ (.bool (g.matches c.atT c.atI))):=⟨_,rfl⟩;rw [←hw2];have HB2:=qq (show LogB v w.heap.size w2 {Ja.nil with flag:=(g.matches c.atT c.atI)} rb J by rw [hw2];exact (HB1.out.set 3 (.bool (g.matches c.atT c.atI)) {Ja.nil with flag:=(g.matches c.atT c.atI)} rfl));have X2:=HB1.out.many (w2:=w2) (by rw [hw2];exact ((Upd.refl (fun k=>k=w.heap.size+1+1) w1).setIn rfl 3 _)) hb (Nat.le_refl _) HR1.out HS1.out;have HR2:=qq X2.1;have HS2:=qq X2.2.1;have HF2:=qq X2.2.2;clear X2 hw2 z3 y3;have HV2:=qq (show ({Ja.nil with flag:=(g.matches c.atT c.atI)}:Ja).Rd N w2 {LAns.none with flag:=(g.matches c.atT c.atI)} from ⟨rfl,rfl,rfl,rfl,rfl,rfl,Jg.nil none,SnV.Js N w2⟩);refine (errOf0 w2).mono ?_;rintro r w3 ⟨rfl,rfl⟩;have z0:w2.cell? ⟨w.heap.size+1+1,0,none⟩=some (.int .i64 0):=HB2.out.b2.cell 0;have y0:=HB2.out.b2.frozen 0;obtain ⟨w3,hw3⟩:∃W,W=w2.setCell {block:=w.heap.size+1+1,off:=0} (Value.int IntKind.i64 (0)):=⟨_,rfl⟩;have HB3:=qq (show LogB v w.heap.size w3 { {Ja.nil with flag:=(g.matches c.atT c.atI)} with err:=0} rb J by rw [hw3];exact HB2.out.set 0 _ _ rfl);have HS:=qq (Ja.inf { {Ja.nil with flag:=(g.matches c.atT c.atI)} with err:=0});have HONE:=qq (Ja.one { {Ja.nil with flag:=(g.matches c.atT c.atI)} with err:=0});have HW3:=qq hw3;clear hw3
 go_wp2_with (first
  |(with_reducible refine Jm rfl 48 (.tmp 6) rfl (w.heap.size+1+1) { {Ja.nil with flag:=(g.matches c.atT c.atI)} with err:=0}.cells rfl 48 _ (HW3.out ▸HB3.out.b2) Tryz.underlying48 rfl HS.out ?_)
  |(with_reducible refine Jk rfl 48 (.tmp 4) (.tmp 328) rfl (w.heap.size+1) { {Ja.nil with flag:=(g.matches c.atT c.atI)} with err:=0}.cells rfl rfl 48 Ja.nil.cells (HW3.out ▸HB3.out.b1) HS.out rfl HONE.out ?_))
 intro w4 hb4 hu4;go_wp2;refine Ja.ret { {Ja.nil with flag:=(g.matches c.atT c.atI)} with err:=0} rfl (w.heap.size+1) rfl hb4 rfl ?_;have X:=HB2.out.fin hb (Nat.le_refl _) HV2.out HR2.out HS2.out hu4;exact ⟨_,rfl,X.1,⟨⟨_,E1.out,X.2.1⟩,X.2.2⟩⟩
theorem lg_14 (h:Jf N w J g) (ho:g.Ok) (hr:Blk w rb 94 #[.pointer (some ⟨J.I.ms,0,none⟩),.pointer (some ⟨J.l,0,none⟩)]) (hv:v.Rd N w c) (hc:c.Ok) (hk:v.kind=14) (hi:c.atI<4611686018427387904):
  Calls Tryz.prog 43 #[.pointer (some ⟨rb,0,none⟩),.agg v.cells] w fun e w'=>∃V:Ja,e=.returned (.agg V.cells)∧V.Rd N w' {LAns.none with flag:=(g.mc c.atT c.atI)}∧LgR N w J (g.maybeCommit c.atT c.atI) w':=by
 have HQ0:=qq hv.atT;have HQ1:=qq hv.atI;have HF:=qq fun (w:World) (h:Jf N w J g)=>c14 (t:=c.atT) h ho hc.ai0 hi;have hB:=(Jn v w hr).1;have hR0:=qq (h.no (Jn v w hr).2);have hb:=Nat.le_of_lt h.lt;have hE:=Jp v w;have h0:=qq (Jn v w hr).2;have hv0:=qq (hv.fr (Jn v w hr).2.fr0);have HC:=qq hc;have HO:=qq ho;have zr:w.cell? ⟨rb,1,none⟩=some (pp J.l):=hr.cell 1;have dr:=fun (o1 o2:Obj)=>cell2 (o1:=o1) (o2:=o2) zr;rw [hk] at hE;obtain ⟨W,hW⟩:∃W,W=logW v w:=⟨_,rfl⟩;rw [←hW] at hB hR0 hE h0 hv0;have HB:=qq hB;have HE:=qq hE;have hNW:=qq (Nat.le_trans hb h0.out.size);clear h ho hB hE hW hv hc hr;unfold Jc.cells;rw [hk];go_enter Tryz.func43,Tryz.ntmps43;go_wp2_with fail
 rw [HE.out];clear zr dr;rw [HQ0.out];rw [HQ1.out];refine (HF.out _ hR0.out).mono ?_;rintro r w1 ⟨rfl,hL⟩;obtain ⟨⟨J1,e1,R1⟩,U1⟩:=hL;have HB1:=qq (HB.out.lu U1);have HR1:=qq R1;have HS1:=qq (LU.trans h0.out.ofNo U1);have E1:=qq e1;clear R1 U1 e1;have z3:w1.cell? ⟨w.heap.size+1+1,3,none⟩=some (.bool false):=HB1.out.b2.cell 3;have y3:=HB1.out.b2.frozen 3;go_wp2_with fail
 obtain ⟨w2,hw2⟩:∃W,W=(w1.setCell ⟨w.heap.size+1+1,3,none⟩ (.bool (g.mc c.atT c.atI))):=⟨_,rfl⟩;rw [←hw2];have HB2:=qq (show LogB v w.heap.size w2 {Ja.nil with flag:=(g.mc c.atT c.atI)} rb J by rw [hw2];exact (HB1.out.set 3 (.bool (g.mc c.atT c.atI)) {Ja.nil with flag:=(g.mc c.atT c.atI)} rfl));have X2:=HB1.out.many (w2:=w2) (by rw [hw2];exact ((Upd.refl (fun k=>k=w.heap.size+1+1) w1).setIn rfl 3 _)) hb (Nat.le_refl _) HR1.out HS1.out;have HR2:=qq X2.1;have HS2:=qq X2.2.1;have HF2:=qq X2.2.2;clear X2 hw2 z3 y3;have HV2:=qq (show ({Ja.nil with flag:=(g.mc c.atT c.atI)}:Ja).Rd N w2 {LAns.none with flag:=(g.mc c.atT c.atI)} from ⟨rfl,rfl,rfl,rfl,rfl,rfl,Jg.nil none,SnV.Js N w2⟩);refine (errOf0 w2).mono ?_;rintro r w3 ⟨rfl,rfl⟩;have z0:w2.cell? ⟨w.heap.size+1+1,0,none⟩=some (.int .i64 0):=HB2.out.b2.cell 0;have y0:=HB2.out.b2.frozen 0;obtain ⟨w3,hw3⟩:∃W,W=w2.setCell {block:=w.heap.size+1+1,off:=0} (Value.int IntKind.i64 (0)):=⟨_,rfl⟩;have HB3:=qq (show LogB v w.heap.size w3 { {Ja.nil with flag:=(g.mc c.atT c.atI)} with err:=0} rb J by rw [hw3];exact HB2.out.set 0 _ _ rfl);have HS:=qq (Ja.inf { {Ja.nil with flag:=(g.mc c.atT c.atI)} with err:=0});have HONE:=qq (Ja.one { {Ja.nil with flag:=(g.mc c.atT c.atI)} with err:=0});have HW3:=qq hw3;clear hw3
 go_wp2_with (first
  |(with_reducible refine Jm rfl 48 (.tmp 6) rfl (w.heap.size+1+1) { {Ja.nil with flag:=(g.mc c.atT c.atI)} with err:=0}.cells rfl 48 _ (HW3.out ▸HB3.out.b2) Tryz.underlying48 rfl HS.out ?_)
  |(with_reducible refine Jk rfl 48 (.tmp 4) (.tmp 328) rfl (w.heap.size+1) { {Ja.nil with flag:=(g.mc c.atT c.atI)} with err:=0}.cells rfl rfl 48 Ja.nil.cells (HW3.out ▸HB3.out.b1) HS.out rfl HONE.out ?_))
 intro w4 hb4 hu4;go_wp2;refine Ja.ret { {Ja.nil with flag:=(g.mc c.atT c.atI)} with err:=0} rfl (w.heap.size+1) rfl hb4 rfl ?_;have X:=HB2.out.fin hb (Nat.le_refl _) HV2.out HR2.out HS2.out hu4;exact ⟨_,rfl,X.1,⟨⟨_,E1.out,X.2.1⟩,X.2.2⟩⟩
end
end Go.Proofs.YtmagnkjodjmojaaGreat
