/- A part of the proof of FnLog: laws and walks, with their conditions written at each. -/
import Derived.Test.YtmagnkjodjmojaaGreatProg
import Derived.WalkKit
import Derived.WalkSpells
import Derived.WalkLawsBesides
import Derived.Deep.Draws
import Derived.Deep.QuietTactic
import Derived.BigQuiet
import Derived.Test.YtmagnkjodjmojaaGreatQ00
set_option maxRecDepth 20000
set_option maxHeartbeats 4000000
set_option linter.all false
namespace Go.Proofs.YtmagnkjodjmojaaGreat
open Go.RowKit
theorem Jj {P:Program} {f:FuncId} {args:Array Value} {w:World} {n:Nat} {v:Value}
  (h:Calls P f args (w.drewN n) fun e w'=>e=.returned v∧w.drewN n=w'):Calls P f args (w.drewN n) fun e w''=>e=.returned v∧∃m,w''=w.drewN m:=
 h.mono fun _ _ ⟨he,hm⟩=>⟨he,n,hm.symm⟩
theorem Ji {P:Program} {f:FuncId} {args:Array Value} {w:World} {n:Nat} {v:Value}
  (h:Calls P f args (w.drewN n) fun e w'=>e=.returned v∧∃m,(w.drewN n).drewN m=w'):Calls P f args (w.drewN n) fun e w''=>e=.returned v∧∃m,w''=w.drewN m:=
 h.mono fun _ _ ⟨he,m,hm⟩=>⟨he,n+m,by rw [←hm,World.drewN_drewN]⟩
@[go_sem] theorem neq_nil_125 (w:World) (a:Option Addr) (n c:Nat):(binOp .neq 125 (.slice a n c) (.slice none 0 0)).run Tryz.prog w=.ok (.bool (!a.isNone)) w:=run_neq_slice_nil_any w 125 5 a n c 0 0 Tryz.underlying125
@[go_sem] theorem eql_nil_125 (w:World) (a:Option Addr) (n c:Nat):(binOp .eql 125 (.slice a n c) (.slice none 0 0)).run Tryz.prog w=.ok (.bool a.isNone) w:=Lib.run_eql_slice_nil w 125 5 a n c 0 0 Tryz.underlying125
@[go_sem] theorem eql_nil_35 (w:World) (a:Option Addr) (n c:Nat):(binOp .eql 35 (.slice a n c) (.slice none 0 0)).run Tryz.prog w=.ok (.bool a.isNone) w:=Lib.run_eql_slice_nil w 35 23 a n c 0 0 Tryz.underlying35
def Ty (w:World) (k:Nat) (T:TypeId):Prop:=∃cs fz,w.heap[k]? =some (.cells cs T fz)
structure Upd (S:Nat→Prop) (w w':World):Prop where
 os:w'.os=w.os
 tape:w'.tape=w.tape
 output:w'.output=w.output
 size:w.heap.size≤w'.heap.size
 keep:∀k,k<w.heap.size→¬S k→w'.heap[k]? =w.heap[k]?
def No:Nat→Prop:=fun _=>False
theorem heap_alloc_lt {w:World} {o:Obj} {k:Nat} (h:k<w.heap.size):(w.alloc o).heap[k]? =w.heap[k]?:=Below.heap_alloc w o k h
theorem heap_setCell_ne {w:World} {a:Addr} {u:Value} {k:Nat} (h:k≠a.block):(w.setCell a u).heap[k]? =w.heap[k]?:=Below.heap_setCell w a u k h
section
variable {S S':Nat→Prop} {w w' w'':World}
theorem Upd.refl (S:Nat→Prop) (w:World):Upd S w w:=⟨rfl,rfl,rfl,Nat.le_refl _,fun _ _ _=>rfl⟩
theorem Upd.trans (h:Upd S w w') (k:Upd S' w' w'') (hS:∀k,S' k→S k∨w.heap.size≤k):Upd S w w'':=
 ⟨k.os.trans h.os,k.tape.trans h.tape,k.output.trans h.output,Nat.le_trans h.size k.size,fun i hi hn=>
  (k.keep i (Nat.lt_of_lt_of_le hi h.size) (fun hs=>(hS i hs).elim hn (fun hl=>by omega))).trans (h.keep i hi hn)⟩
theorem Upd.Ke (h:Upd S w w') (k:Upd S w' w''):Upd S w w'':=h.trans k fun _ hk=>.inl hk
theorem Upd.no (h:Upd S w w') (k:Upd No w' w''):Upd S w w'':=h.trans k fun _ hk=>hk.elim
theorem Upd.mono (h:Upd S w w') (hS:∀k,S k→S' k):Upd S' w w':=⟨h.os,h.tape,h.output,h.size,fun k hk hn=>h.keep k hk fun hs=>hn (hS k hs)⟩
theorem Upd.ofNo (h:Upd No w w'):Upd S w w':=h.mono fun _ hk=>hk.elim
theorem Upd.drewN (h:Upd S w w') (n:Nat):Upd S w (w'.drewN n):=⟨h.os,h.tape,h.output,h.size,h.keep⟩
theorem Upd.drew (h:Upd S w w'):Upd S w w'.drew:=⟨h.os,h.tape,h.output,h.size,h.keep⟩
theorem Upd.alloc (h:Upd S w w') (o:Obj):Upd S w (w'.alloc o):=
 ⟨h.os,h.tape,h.output,Nat.le_trans h.size (by simp),fun k hk hn=>(heap_alloc_lt (Nat.lt_of_lt_of_le hk h.size)).trans (h.keep k hk hn)⟩
theorem Upd.setCell (h:Upd S w w') {a:Addr} (ha:S a.block∨w.heap.size≤a.block) (u:Value):Upd S w (w'.setCell a u):=
 ⟨h.os,h.tape,h.output,by simpa using h.size,fun k hk hn=>(heap_setCell_ne (by rintro rfl;exact ha.elim hn (fun hl=>by omega))).trans (h.keep k hk hn)⟩
theorem Upd.below (h:Upd No w w'):Below w.heap.size w w':=⟨h.os,h.tape,h.output,h.size,fun k hk=>h.keep k hk (fun hs=>hs)⟩
theorem Upd.ofBelow (h:Below w.heap.size w w'):Upd No w w':=⟨h.os,h.tape,h.output,h.size,fun k hk _=>h.block k hk⟩
theorem Upd.grown (h:Upd S w w') {row:Option Nat} (hg:w'.grownBy w'' row) (hr:∀k,row=some k→S k∨w.heap.size≤k):Upd S w w'':=
 h.trans (S':=fun k=>row=some k) ⟨hg.os,hg.tape,hg.output,hg.size,fun k hk hn=>hg.block k hk (fun e=>hn e.symm)⟩ fun k hk=>hr k hk
theorem Upd.cell (h:Upd S w w') {b o:Nat} {v:Value} (hc:w.cell? ⟨b,o,none⟩=some v) (hn:¬S b):w'.cell? ⟨b,o,none⟩=some v:=by
 have hlt:b<w.heap.size:=World.block_lt_of_cell? w ⟨b,o,none⟩ hc;exact (World.cell?_of_block (a:=⟨b,o,none⟩) (h.keep b hlt hn)).trans hc
end
theorem Upd.frz {S:Nat→Prop} {w w':World} (h:Upd S w w') {b o i:Nat} {v:Value} (hc:w.cell? ⟨b,o,none⟩=some v) (hn:¬S b) (hf:w.frozen? ⟨b,i,none⟩=false):w'.frozen? ⟨b,i,none⟩=false:=
 (World.frozen?_of_block (a:=⟨b,i,none⟩) (h.keep b (World.block_lt_of_cell? w ⟨b,o,none⟩ hc) hn)).trans hf
theorem cell_alloc {w:World} {o:Obj} {b i:Nat} {v:Value} (h:w.cell? ⟨b,i,none⟩=some v):(w.alloc o).cell? ⟨b,i,none⟩=some v:=((Upd.refl No w).alloc o).cell h fun h=>h
theorem lt_alloc {w:World} {o:Obj} {n:Nat} (h:n<w.heap.size):n<(w.alloc o).heap.size:=by simp;omega
def Blk (w:World) (g:Nat) (t:TypeId) (cs:Array Value):Prop:=w.heap[g]? =some (.cells cs t (0,0))
section
variable {w w':World} {g:Nat} {t:TypeId} {cs:Array Value} {S:Nat→Prop}
theorem Blk.lt (h:Blk w g t cs):g<w.heap.size:=by
 rcases Nat.lt_or_ge g w.heap.size with hlt|hge
 ·exact hlt
 ·unfold Blk at h;rw [Array.getElem?_eq_none hge] at h;cases h
theorem Blk.ty (h:Blk w g t cs):Ty w g t:=⟨cs,(0,0),h⟩
theorem Blk.cell (h:Blk w g t cs) (i:Nat):w.cell? ⟨g,i,none⟩=cs[i]?:=cell_of_row w g i cs t (0,0) h
theorem Blk.frozen (h:Blk w g t cs) (i:Nat):w.frozen? ⟨g,i,none⟩=false:=by
 unfold Blk at h;simp [World.frozen?,h]
theorem Blk.new (w:World) (t:TypeId) (cs:Array Value):Blk (w.alloc (.cells cs t)) w.heap.size t cs:=heap_alloc_new w _
theorem Blk.new_ {w:World} {t:TypeId} {cs:Array Value} {g:Nat} (h:g=w.heap.size):Blk (w.alloc (.cells cs t)) g t cs:=h ▸Blk.new w t cs
theorem Blk.drew (h:Blk w g t cs):Blk w.drew g t cs:=h
theorem Blk.drewN (h:Blk w g t cs) (n:Nat):Blk (w.drewN n) g t cs:=h
theorem Blk.alloc (h:Blk w g t cs) (o:Obj):Blk (w.alloc o) g t cs:=(heap_alloc_lt h.lt).trans h
theorem Blk.set_ (h:Blk w g t cs) (i:Nat) (u:Value):Blk (w.setCell ⟨g,i,none⟩ u) g t (cs.setIfInBounds i u):=by
 unfold Blk at h ⊢;simp [World.setCell,Array.getElem?_modify,h]
theorem Blk.far (h:Blk w g t cs) {p:Addr} (hp:g≠p.block) (u:Value):Blk (w.setCell p u) g t cs:=(heap_setCell_ne hp).trans h
theorem Blk.upd (h:Blk w g t cs) (hb:Upd S w w') (hg:¬S g):Blk w' g t cs:=(hb.keep g h.lt hg).trans h
theorem Blk.ne_ {g':Nat} {t':TypeId} {cs':Array Value} (h:Blk w g t cs) (h':Blk w g' t' cs') (hne:t≠t'):g≠g':=by
 rintro rfl;unfold Blk at h h';rw [h] at h';injection h' with h'
 injection h' with _ ht
 exact hne ht
theorem Ty.ne_ {g':Nat} {t':TypeId} (h:Ty w g t) (h':Ty w g' t') (hne:t≠t'):g≠g':=by
 rintro rfl;obtain ⟨_,_,h⟩:=h;obtain ⟨_,_,h'⟩:=h';rw [h] at h';injection h' with h'
 injection h' with _ ht
 exact hne ht
theorem Ty.lt (h:Ty w g t):g<w.heap.size:=by
 obtain ⟨_,_,h⟩:=h;exact (Array.getElem?_eq_some_iff.1 h).1
theorem Ty.upd (h:Ty w g t) (hb:Upd S w w') (hg:¬S g):Ty w' g t:=by
 have hl:=h.lt;obtain ⟨cs,fz,h⟩:=h;exact ⟨cs,fz,(hb.keep g hl hg).trans h⟩
end
def immT (T:TypeId):Bool:=T==104||T==23||T==127||T==221||T==5||T==43||T==45||T==245||T==248||T==4
def Imm (N:Nat) (w:World) (k:Nat):Prop:=k<w.heap.size∧(k<N∨∃T,Ty w k T∧immT T=true)
def Mutb (N:Nat) (w:World) (k:Nat):Prop:=N≤k∧(w.heap.size≤k∨∃T,Ty w k T∧immT T=false)
theorem Imm.ne {N:Nat} {w:World} {k j:Nat} (h:Imm N w k) (h':Mutb N w j):k≠j:=by
 rintro rfl;obtain ⟨hl,h⟩:=h;obtain ⟨hN,h'⟩:=h';rcases h with h|⟨T,hT,hi⟩
 ·omega
 rcases h' with h'|⟨T',hT',hi'⟩
 ·omega
 by_cases e:T=T'
 ·subst e;simp [hi] at hi'
 ·exact hT.ne_ hT' e rfl
structure Fr (N:Nat) (w w':World):Prop where
 size:w.heap.size≤w'.heap.size
 keep:∀k,Imm N w k→w'.heap[k]? =w.heap[k]?
section
variable {N:Nat} {S:Nat→Prop} {w w' w'':World}
theorem Fr.refl (N:Nat) (w:World):Fr N w w:=⟨Nat.le_refl _,fun _ _=>rfl⟩
theorem Upd.fr (h:Upd S w w') (hS:∀k,S k→Mutb N w k):Fr N w w':=⟨h.size,fun k hk=>h.keep k hk.1 fun hs=>hk.ne (hS k hs) rfl⟩
theorem Upd.fr0 (h:Upd No w w'):Fr N w w':=h.fr fun _ hk=>hk.elim
theorem Imm.fr {k:Nat} (h:Imm N w k) (hf:Fr N w w'):Imm N w' k:=by
 refine ⟨Nat.lt_of_lt_of_le h.1 hf.size,?_⟩;rcases h.2 with hn|⟨T,⟨cs,fz,hT⟩,hi⟩
 ·exact .inl hn
 ·exact .inr ⟨T,⟨cs,fz,(hf.keep k h).trans hT⟩,hi⟩
theorem Fr.trans (h:Fr N w w') (k:Fr N w' w''):Fr N w w'':=⟨Nat.le_trans h.size k.size,fun i hi=>(k.keep i (hi.fr h)).trans (h.keep i hi)⟩
theorem Fr.cell {b o:Nat} {v:Value} (hf:Fr N w w') (hi:Imm N w b) (hc:w.cell? ⟨b,o,none⟩=some v):w'.cell? ⟨b,o,none⟩=some v:=
 (World.cell?_of_block (a:=⟨b,o,none⟩) (hf.keep b hi)).trans hc
theorem Fr.blk {b:Nat} {T:TypeId} {cs:Array Value} (hf:Fr N w w') (hi:immT T=true) (h:Blk w b T cs):Blk w' b T cs:=
 (hf.keep b ⟨h.lt,.inr ⟨T,h.ty,hi⟩⟩).trans h
theorem Blk.imm {b:Nat} {T:TypeId} {cs:Array Value} (h:Blk w b T cs) (hi:immT T=true):Imm N w b:=⟨h.lt,.inr ⟨T,h.ty,hi⟩⟩
theorem Blk.mutb {b:Nat} {T:TypeId} {cs:Array Value} (h:Blk w b T cs) (hN:N≤b) (hi:immT T=false):Mutb N w b:=⟨hN,.inr ⟨T,h.ty,hi⟩⟩
end
structure SlV where
 A:Option Addr
 n:Nat
 c:Nat
def SlV.nil:SlV:=⟨none,0,0⟩
abbrev SlV.v (s:SlV):Value:=.slice s.A s.n s.c
structure Jg (N:Nat) (w:World) (sz:Nat) (s:SlV) (len:Nat) (f:Nat→Nat→Value):Prop where
 len:len=s.n
 cap:s.n≤s.c
 at_:0<s.n→∃b o,s.A=some ⟨b,o,none⟩∧Imm N w b∧∀j i,j<s.n→i<sz→w.cell? ⟨b,o+(j*sz+i),none⟩=some (f j i)
theorem Jg.fr {N:Nat} {w w':World} {sz:Nat} {s:SlV} {len:Nat} {f:Nat→Nat→Value} (h:Jg N w sz s len f) (hf:Fr N w w'):Jg N w' sz s len f:=
 ⟨h.len,h.cap,fun hn=>by
  obtain ⟨b,o,ha,hi,hc⟩:=h.at_ hn
  exact ⟨b,o,ha,hi.fr hf,fun j i hj hi'=>hf.cell hi (hc j i hj hi')⟩⟩
theorem Jg.nil {N:Nat} {w:World} {sz:Nat} {c:Nat} {f:Nat→Nat→Value} (A:Option Addr):Jg N w sz ⟨A,0,c⟩ 0 f:=
 ⟨rfl,Nat.zero_le _,fun h=>absurd h (Nat.lt_irrefl 0)⟩
structure Ent where
 term:Int
 index:Int
 kind:Int
 data:ByteArray
instance:Inhabited Ent:=⟨⟨0,0,0,⟨#[]⟩⟩⟩
structure Conf where
 vo:List Int
 le:List Int
 ou:List Int
 ne:List Int
 auto:Bool
structure Snap where
 data:ByteArray
 index:Int
 term:Int
 cf:Conf
def Conf.zero:Conf:=⟨[],[],[],[],false⟩
def Snap.zero:Snap:=⟨⟨#[]⟩,0,0,Conf.zero⟩
def entCell (e:Ent):Nat→Value
 |0=>.int .u64 e.term
 |1=>.int .u64 e.index
 |2=>.int .i64 e.kind
 |_=>.string e.data
def Jh (N:Nat) (w:World) (s:SlV) (es:List Ent):Prop:=Jg N w 4 s es.length fun j i=>entCell (es.getD j default) i
def Jz (N:Nat) (w:World) (s:SlV) (xs:List Int):Prop:=Jg N w 1 s xs.length fun j _=>.int .u64 (xs.getD j 0)
def RdBytes (N:Nat) (w:World) (s:SlV) (d:ByteArray):Prop:=(Jg N w 1 s d.size fun j _=>.int .u8 ((d.data.toList.getD j 0).toNat:Int))∧(s.n=0→s.A=none)
theorem Jz.fr {N:Nat} {w w':World} {s:SlV} {xs:List Int} (h:Jz N w s xs) (hf:Fr N w w'):Jz N w' s xs:=Jg.fr h hf
theorem Jh.fr {N:Nat} {w w':World} {s:SlV} {es:List Ent} (h:Jh N w s es) (hf:Fr N w w'):Jh N w' s es:=Jg.fr h hf
theorem RdBytes.fr {N:Nat} {w w':World} {s:SlV} {d:ByteArray} (h:RdBytes N w s d) (hf:Fr N w w'):RdBytes N w' s d:=⟨h.1.fr hf,h.2⟩
def OptInt (w:World) (T:TypeId) (k:IntKind) (p:Option Addr) (v:Int):Prop:=(p=none∧v=0)∨∃b,p=some ⟨b,0,none⟩∧Blk w b T #[.int k v]
def OptBool (w:World) (p:Option Addr) (v:Bool):Prop:=(p=none∧v=false)∨∃b,p=some ⟨b,0,none⟩∧Blk w b 4 #[.bool v]
def Kg (N:Nat) (w:World) (p:Nat) (e:Ent) (real:Prop):Prop:=
 ∃tp ip ty ds,Blk w p 127 #[.pointer tp,.pointer ip,.pointer ty,.slice ds.A ds.n ds.c]∧OptInt w 23 .u64 tp e.term∧OptInt w 23 .u64 ip e.index∧OptInt w 221 .i32 ty e.kind∧
  RdBytes N w ds e.data∧(real→(∃b,tp=some ⟨b,0,none⟩)∧(∃b,ip=some ⟨b,0,none⟩)∧(ty=none ↔ e.kind=0)∧(ds.A=none ↔ e.data.size=0)∧(ds.A=none→ds=⟨none,0,0⟩))
def PbConf (N:Nat) (w:World) (p:Nat) (c:Conf):Prop:=
 ∃s1 s2 s3 s4:SlV,∃ap,Blk w p 245 #[.slice s1.A s1.n s1.c,.slice s2.A s2.n s2.c,.slice s3.A s3.n s3.c,.slice s4.A s4.n s4.c,.pointer ap]∧
  Jz N w s1 c.vo∧Jz N w s2 c.le∧Jz N w s3 c.ou∧Jz N w s4 c.ne∧OptBool w ap c.auto∧(∃b,ap=some ⟨b,0,none⟩)∧(s1.A=none→s1=⟨none,0,0⟩)∧(s2.A=none→s2=⟨none,0,0⟩)∧(s3.A=none→s3=⟨none,0,0⟩)∧(s4.A=none→s4=⟨none,0,0⟩)
def Kf (N:Nat) (w:World) (sn md:Nat) (s:Snap):Prop:=
 ∃ds:SlV,∃cf ix tm,Blk w sn 189 #[.slice ds.A ds.n ds.c,.pointer (some ⟨md,0,none⟩)]∧
  Blk w md 235 #[.pointer (some ⟨cf,0,none⟩),.pointer (some ⟨ix,0,none⟩),.pointer (some ⟨tm,0,none⟩)]∧
  RdBytes N w ds s.data∧PbConf N w cf s.cf∧Blk w ix 23 #[.int .u64 s.index]∧Blk w tm 23 #[.int .u64 s.term]∧N≤sn∧N≤md∧(ds.A=none→ds=⟨none,0,0⟩)
section
variable {N:Nat} {w w':World} {S:Nat→Prop}
theorem OptInt.fr {T:TypeId} {k:IntKind} {p:Option Addr} {v:Int} (h:OptInt w T k p v) (hf:Fr N w w') (hT:immT T=true):OptInt w' T k p v:=
 h.imp id fun ⟨b,hp,hb⟩=>⟨b,hp,hf.blk hT hb⟩
theorem OptBool.fr {p:Option Addr} {v:Bool} (h:OptBool w p v) (hf:Fr N w w'):OptBool w' p v:=
 h.imp id fun ⟨b,hp,hb⟩=>⟨b,hp,hf.blk rfl hb⟩
theorem Kg.fr {p:Nat} {e:Ent} {real:Prop} (h:Kg N w p e real) (hf:Fr N w w'):Kg N w' p e real:=by
 obtain ⟨tp,ip,ty,ds,hb,h1,h2,h3,h4,h5⟩:=h;exact ⟨tp,ip,ty,ds,hf.blk rfl hb,h1.fr hf rfl,h2.fr hf rfl,h3.fr hf rfl,h4.fr hf,h5⟩
theorem Kg.weak {p:Nat} {e:Ent} {real real':Prop} (h:Kg N w p e real) (hi:real'→real):Kg N w p e real':=by
 obtain ⟨tp,ip,ty,ds,hb,h1,h2,h3,h4,h5⟩:=h;exact ⟨tp,ip,ty,ds,hb,h1,h2,h3,h4,fun hr=>h5 (hi hr)⟩
theorem PbConf.fr {p:Nat} {c:Conf} (h:PbConf N w p c) (hf:Fr N w w'):PbConf N w' p c:=by
 obtain ⟨s1,s2,s3,s4,ap,hb,h1,h2,h3,h4,h5,h6⟩:=h;exact ⟨s1,s2,s3,s4,ap,hf.blk rfl hb,Jg.fr h1 hf,Jg.fr h2 hf,Jg.fr h3 hf,Jg.fr h4 hf,h5.fr hf,h6⟩
theorem Kf.upd {sn md:Nat} {s:Snap} (h:Kf N w sn md s) (hu:Upd S w w') (hf:Fr N w w') (h1:¬S sn) (h2:¬S md):Kf N w' sn md s:=by
 obtain ⟨ds,cf,ix,tm,hb,hm,hd,hc,hi,ht,hn,hn'⟩:=h;exact ⟨ds,cf,ix,tm,hb.upd hu h1,hm.upd hu h2,hd.fr hf,hc.fr hf,hf.blk rfl hi,hf.blk rfl ht,hn,hn'⟩
end
structure PArr (N:Nat) (w:World) (d:Nat) (s:SlV) (es:List Ent):Prop where
 len:es.length=s.n
 cap:s.n≤s.c
 arr:0<s.c→∃b o cs,s.A=some ⟨b,o,none⟩∧Blk w b 122 cs∧o+s.c≤cs.size∧N≤b∧
  ∀j,j<s.n→∃p,cs[o+j]? =some (.pointer (some ⟨p,0,none⟩))∧Kg N w p (es.getD j default) (d≤j)
theorem PArr.upd {N:Nat} {w w':World} {S:Nat→Prop} {d:Nat} {s:SlV} {es:List Ent} (h:PArr N w d s es) (hu:Upd S w w') (hf:Fr N w w') (hS:∀b o,s.A=some ⟨b,o,none⟩→¬S b):PArr N w' d s es:=
 ⟨h.len,h.cap,fun hc=>by
  obtain ⟨b,o,cs,ha,hb,ho,hN,hj⟩:=h.arr hc
  exact ⟨b,o,cs,ha,hb.upd hu (hS b o ha),ho,hN,fun j hj'=>by
   obtain ⟨p,hp,he⟩:=hj j hj'
   exact ⟨p,hp,he.fr hf⟩⟩⟩
theorem PArr.nil (N:Nat) (w:World) (d:Nat):PArr N w d ⟨none,0,0⟩ []:=⟨rfl,Nat.le_refl _,fun h=>absurd h (Nat.lt_irrefl 0)⟩
theorem ret_int {k:IntKind} {a b:Int} (h:a=b):Ending.returned (.int k a)=.returned (.int k b):=by rw [h]
theorem ent_term {w:World} {p:Nat} {tp:Option Addr} {v1 v2 v3:Value} {n:Int} (hb:Blk w p 127 #[.pointer tp,v1,v2,v3]) (ho:OptInt w 23 .u64 tp n):
  Calls Tryz.prog 149 #[.pointer (some ⟨p,0,none⟩)] w fun e w'=>e=.returned (.int .u64 n)∧w=w':=by
 have h0:w.cell? ⟨p,0,none⟩=some (.pointer tp):=hb.cell 0;clear hb;rcases ho with ⟨rfl,rfl⟩|⟨b,rfl,hb⟩
 ·go_enter Tryz.func149,Tryz.ntmps149;go_wp2;go_ret;exact ⟨rfl,rfl⟩
 ·have h1:w.cell? ⟨b,0,none⟩=some (.int .u64 n):=hb.cell 0;clear hb;go_enter Tryz.func149,Tryz.ntmps149;go_wp2;go_ret;exact ⟨rfl,rfl⟩
theorem ent_index {w:World} {p:Nat} {tp:Option Addr} {v0 v2 v3:Value} {n:Int} (hb:Blk w p 127 #[v0,.pointer tp,v2,v3]) (ho:OptInt w 23 .u64 tp n):
  Calls Tryz.prog 150 #[.pointer (some ⟨p,0,none⟩)] w fun e w'=>e=.returned (.int .u64 n)∧w=w':=by
 have h0:w.cell? ⟨p,1,none⟩=some (.pointer tp):=hb.cell 1;clear hb;rcases ho with ⟨rfl,rfl⟩|⟨b,rfl,hb⟩
 ·go_enter Tryz.func150,Tryz.ntmps150;go_wp2;go_ret;exact ⟨rfl,rfl⟩
 ·have h1:w.cell? ⟨b,0,none⟩=some (.int .u64 n):=hb.cell 0;clear hb;go_enter Tryz.func150,Tryz.ntmps150;go_wp2;go_ret;exact ⟨rfl,rfl⟩
theorem ent_type {w:World} {p:Nat} {tp:Option Addr} {v0 v1 v3:Value} {n:Int} (hb:Blk w p 127 #[v0,v1,.pointer tp,v3]) (ho:OptInt w 221 .i32 tp n):
  Calls Tryz.prog 151 #[.pointer (some ⟨p,0,none⟩)] w fun e w'=>e=.returned (.int .i32 n)∧w=w':=by
 have h0:w.cell? ⟨p,2,none⟩=some (.pointer tp):=hb.cell 2;clear hb;rcases ho with ⟨rfl,rfl⟩|⟨b,rfl,hb⟩
 ·go_enter Tryz.func151,Tryz.ntmps151;go_wp2;go_ret;exact ⟨rfl,rfl⟩
 ·have h1:w.cell? ⟨b,0,none⟩=some (.int .i32 n):=hb.cell 0;clear hb;go_enter Tryz.func151,Tryz.ntmps151;go_wp2;go_ret;exact ⟨rfl,rfl⟩
theorem ent_data {w:World} {p:Nat} {v0 v1 v2:Value} {A:Option Addr} {n c:Nat} (hb:Blk w p 127 #[v0,v1,v2,.slice A n c]):
  Calls Tryz.prog 152 #[.pointer (some ⟨p,0,none⟩)] w fun e w'=>e=.returned (.slice A n c)∧w=w':=by
 have h0:w.cell? ⟨p,3,none⟩=some (.slice A n c):=hb.cell 3;clear hb;go_enter Tryz.func152,Tryz.ntmps152;go_wp2;go_ret;exact ⟨rfl,rfl⟩
theorem snap_meta {w:World} {p:Nat} {v0:Value} {q:Option Addr} (hb:Blk w p 189 #[v0,.pointer q]):
  Calls Tryz.prog 173 #[.pointer (some ⟨p,0,none⟩)] w fun e w'=>e=.returned (.pointer q)∧w=w':=by
 have h0:w.cell? ⟨p,1,none⟩=some (.pointer q):=hb.cell 1;clear hb;go_enter Tryz.func173,Tryz.ntmps173;go_wp2;go_ret;exact ⟨rfl,rfl⟩
theorem snap_data {w:World} {p:Nat} {v1:Value} {A:Option Addr} {n c:Nat} (hb:Blk w p 189 #[.slice A n c,v1]):
  Calls Tryz.prog 174 #[.pointer (some ⟨p,0,none⟩)] w fun e w'=>e=.returned (.slice A n c)∧w=w':=by
 have h0:w.cell? ⟨p,0,none⟩=some (.slice A n c):=hb.cell 0;clear hb;go_enter Tryz.func174,Tryz.ntmps174;go_wp2;go_ret;exact ⟨rfl,rfl⟩
theorem meta_index {w:World} {p:Nat} {tp:Option Addr} {v0 v2:Value} {n:Int} (hb:Blk w p 235 #[v0,.pointer tp,v2]) (ho:OptInt w 23 .u64 tp n):
  Calls Tryz.prog 175 #[.pointer (some ⟨p,0,none⟩)] w fun e w'=>e=.returned (.int .u64 n)∧w=w':=by
 have h0:w.cell? ⟨p,1,none⟩=some (.pointer tp):=hb.cell 1;clear hb;rcases ho with ⟨rfl,rfl⟩|⟨b,rfl,hb⟩
 ·go_enter Tryz.func175,Tryz.ntmps175;go_wp2;go_ret;exact ⟨rfl,rfl⟩
 ·have h1:w.cell? ⟨b,0,none⟩=some (.int .u64 n):=hb.cell 0;clear hb;go_enter Tryz.func175,Tryz.ntmps175;go_wp2;go_ret;exact ⟨rfl,rfl⟩
theorem meta_term {w:World} {p:Nat} {tp:Option Addr} {v0 v1:Value} {n:Int} (hb:Blk w p 235 #[v0,v1,.pointer tp]) (ho:OptInt w 23 .u64 tp n):
  Calls Tryz.prog 176 #[.pointer (some ⟨p,0,none⟩)] w fun e w'=>e=.returned (.int .u64 n)∧w=w':=by
 have h0:w.cell? ⟨p,2,none⟩=some (.pointer tp):=hb.cell 2;clear hb;rcases ho with ⟨rfl,rfl⟩|⟨b,rfl,hb⟩
 ·go_enter Tryz.func176,Tryz.ntmps176;go_wp2;go_ret;exact ⟨rfl,rfl⟩
 ·have h1:w.cell? ⟨b,0,none⟩=some (.int .u64 n):=hb.cell 0;clear hb;go_enter Tryz.func176,Tryz.ntmps176;go_wp2;go_ret;exact ⟨rfl,rfl⟩
theorem meta_conf {w:World} {p:Nat} {v1 v2:Value} {q:Option Addr} (hb:Blk w p 235 #[.pointer q,v1,v2]):
  Calls Tryz.prog 177 #[.pointer (some ⟨p,0,none⟩)] w fun e w'=>e=.returned (.pointer q)∧w=w':=by
 have h0:w.cell? ⟨p,0,none⟩=some (.pointer q):=hb.cell 0;clear hb;go_enter Tryz.func177,Tryz.ntmps177;go_wp2;go_ret;exact ⟨rfl,rfl⟩
theorem conf_vo {w:World} {p:Nat} {v1 v2 v3 v4:Value} {A:Option Addr} {n c:Nat} (hb:Blk w p 245 #[.slice A n c,v1,v2,v3,v4]):
  Calls Tryz.prog 196 #[.pointer (some ⟨p,0,none⟩)] w fun e w'=>e=.returned (.slice A n c)∧w=w':=by
 have h0:w.cell? ⟨p,0,none⟩=some (.slice A n c):=hb.cell 0;clear hb;go_enter Tryz.func196,Tryz.ntmps196;go_wp2;go_ret;exact ⟨rfl,rfl⟩
theorem conf_vo_nil (w:World):Calls Tryz.prog 196 #[.pointer none] w fun e w'=>e=.returned (.slice none 0 0)∧w=w':=by
 go_enter Tryz.func196,Tryz.ntmps196;go_wp2;go_ret;exact ⟨rfl,rfl⟩
theorem conf_le {w:World} {p:Nat} {v0 v2 v3 v4:Value} {A:Option Addr} {n c:Nat} (hb:Blk w p 245 #[v0,.slice A n c,v2,v3,v4]):
  Calls Tryz.prog 197 #[.pointer (some ⟨p,0,none⟩)] w fun e w'=>e=.returned (.slice A n c)∧w=w':=by
 have h0:w.cell? ⟨p,1,none⟩=some (.slice A n c):=hb.cell 1;clear hb;go_enter Tryz.func197,Tryz.ntmps197;go_wp2;go_ret;exact ⟨rfl,rfl⟩
theorem conf_le_nil (w:World):Calls Tryz.prog 197 #[.pointer none] w fun e w'=>e=.returned (.slice none 0 0)∧w=w':=by
 go_enter Tryz.func197,Tryz.ntmps197;go_wp2;go_ret;exact ⟨rfl,rfl⟩
theorem conf_ou {w:World} {p:Nat} {v0 v1 v3 v4:Value} {A:Option Addr} {n c:Nat} (hb:Blk w p 245 #[v0,v1,.slice A n c,v3,v4]):
  Calls Tryz.prog 198 #[.pointer (some ⟨p,0,none⟩)] w fun e w'=>e=.returned (.slice A n c)∧w=w':=by
 have h0:w.cell? ⟨p,2,none⟩=some (.slice A n c):=hb.cell 2;clear hb;go_enter Tryz.func198,Tryz.ntmps198;go_wp2;go_ret;exact ⟨rfl,rfl⟩
theorem conf_ou_nil (w:World):Calls Tryz.prog 198 #[.pointer none] w fun e w'=>e=.returned (.slice none 0 0)∧w=w':=by
 go_enter Tryz.func198,Tryz.ntmps198;go_wp2;go_ret;exact ⟨rfl,rfl⟩
theorem conf_ne {w:World} {p:Nat} {v0 v1 v2 v4:Value} {A:Option Addr} {n c:Nat} (hb:Blk w p 245 #[v0,v1,v2,.slice A n c,v4]):
  Calls Tryz.prog 199 #[.pointer (some ⟨p,0,none⟩)] w fun e w'=>e=.returned (.slice A n c)∧w=w':=by
 have h0:w.cell? ⟨p,3,none⟩=some (.slice A n c):=hb.cell 3;clear hb;go_enter Tryz.func199,Tryz.ntmps199;go_wp2;go_ret;exact ⟨rfl,rfl⟩
theorem conf_ne_nil (w:World):Calls Tryz.prog 199 #[.pointer none] w fun e w'=>e=.returned (.slice none 0 0)∧w=w':=by
 go_enter Tryz.func199,Tryz.ntmps199;go_wp2;go_ret;exact ⟨rfl,rfl⟩
theorem snap_meta_nil (w:World):Calls Tryz.prog 173 #[.pointer none] w fun e w'=>e=.returned (.pointer none)∧w=w':=by
 go_enter Tryz.func173,Tryz.ntmps173;go_wp2;go_ret;exact ⟨rfl,rfl⟩
theorem snap_data_nil (w:World):Calls Tryz.prog 174 #[.pointer none] w fun e w'=>e=.returned (.slice none 0 0)∧w=w':=by
 go_enter Tryz.func174,Tryz.ntmps174;go_wp2;go_ret;exact ⟨rfl,rfl⟩
theorem meta_index_nil (w:World):Calls Tryz.prog 175 #[.pointer none] w fun e w'=>e=.returned (.int .u64 0)∧w=w':=by
 go_enter Tryz.func175,Tryz.ntmps175;go_wp2;go_ret;exact ⟨rfl,rfl⟩
theorem meta_term_nil (w:World):Calls Tryz.prog 176 #[.pointer none] w fun e w'=>e=.returned (.int .u64 0)∧w=w':=by
 go_enter Tryz.func176,Tryz.ntmps176;go_wp2;go_ret;exact ⟨rfl,rfl⟩
theorem meta_conf_nil (w:World):Calls Tryz.prog 177 #[.pointer none] w fun e w'=>e=.returned (.pointer none)∧w=w':=by
 go_enter Tryz.func177,Tryz.ntmps177;go_wp2;go_ret;exact ⟨rfl,rfl⟩
theorem conf_auto_nil (w:World):Calls Tryz.prog 200 #[.pointer none] w fun e w'=>e=.returned (.bool false)∧w=w':=by
 go_enter Tryz.func200,Tryz.ntmps200;go_wp2;go_ret;exact ⟨rfl,rfl⟩
theorem conf_auto {w:World} {p:Nat} {tp:Option Addr} {v0 v1 v2 v3:Value} {n:Bool} (hb:Blk w p 245 #[v0,v1,v2,v3,.pointer tp]) (ho:OptBool w tp n):
  Calls Tryz.prog 200 #[.pointer (some ⟨p,0,none⟩)] w fun e w'=>e=.returned (.bool n)∧w=w':=by
 have h0:w.cell? ⟨p,4,none⟩=some (.pointer tp):=hb.cell 4;clear hb;rcases ho with ⟨rfl,rfl⟩|⟨b,rfl,hb⟩
 ·go_enter Tryz.func200,Tryz.ntmps200;go_wp2;go_ret;exact ⟨rfl,rfl⟩
 ·have h1:w.cell? ⟨b,0,none⟩=some (.bool n):=hb.cell 0;clear hb;go_enter Tryz.func200,Tryz.ntmps200;go_wp2;go_ret;exact ⟨rfl,rfl⟩
theorem hard_term {w:World} {p:Nat} {tp:Option Addr} {v1 v2:Value} {n:Int} (hb:Blk w p 248 #[.pointer tp,v1,v2]) (ho:OptInt w 23 .u64 tp n):
  Calls Tryz.prog 193 #[.pointer (some ⟨p,0,none⟩)] w fun e w'=>e=.returned (.int .u64 n)∧w=w':=by
 have h0:w.cell? ⟨p,0,none⟩=some (.pointer tp):=hb.cell 0;clear hb;rcases ho with ⟨rfl,rfl⟩|⟨b,rfl,hb⟩
 ·go_enter Tryz.func193,Tryz.ntmps193;go_wp2;go_ret;exact ⟨rfl,rfl⟩
 ·have h1:w.cell? ⟨b,0,none⟩=some (.int .u64 n):=hb.cell 0;clear hb;go_enter Tryz.func193,Tryz.ntmps193;go_wp2;go_ret;exact ⟨rfl,rfl⟩
theorem hard_vote {w:World} {p:Nat} {tp:Option Addr} {v0 v2:Value} {n:Int} (hb:Blk w p 248 #[v0,.pointer tp,v2]) (ho:OptInt w 23 .u64 tp n):
  Calls Tryz.prog 194 #[.pointer (some ⟨p,0,none⟩)] w fun e w'=>e=.returned (.int .u64 n)∧w=w':=by
 have h0:w.cell? ⟨p,1,none⟩=some (.pointer tp):=hb.cell 1;clear hb;rcases ho with ⟨rfl,rfl⟩|⟨b,rfl,hb⟩
 ·go_enter Tryz.func194,Tryz.ntmps194;go_wp2;go_ret;exact ⟨rfl,rfl⟩
 ·have h1:w.cell? ⟨b,0,none⟩=some (.int .u64 n):=hb.cell 0;clear hb;go_enter Tryz.func194,Tryz.ntmps194;go_wp2;go_ret;exact ⟨rfl,rfl⟩
theorem hard_commit {w:World} {p:Nat} {tp:Option Addr} {v0 v1:Value} {n:Int} (hb:Blk w p 248 #[v0,v1,.pointer tp]) (ho:OptInt w 23 .u64 tp n):
  Calls Tryz.prog 195 #[.pointer (some ⟨p,0,none⟩)] w fun e w'=>e=.returned (.int .u64 n)∧w=w':=by
 have h0:w.cell? ⟨p,2,none⟩=some (.pointer tp):=hb.cell 2;clear hb;rcases ho with ⟨rfl,rfl⟩|⟨b,rfl,hb⟩
 ·go_enter Tryz.func195,Tryz.ntmps195;go_wp2;go_ret;exact ⟨rfl,rfl⟩
 ·have h1:w.cell? ⟨b,0,none⟩=some (.int .u64 n):=hb.cell 0;clear hb;go_enter Tryz.func195,Tryz.ntmps195;go_wp2;go_ret;exact ⟨rfl,rfl⟩
theorem hard_term_nil (w:World):Calls Tryz.prog 193 #[.pointer none] w fun e w'=>e=.returned (.int .u64 0)∧w=w':=by
 go_enter Tryz.func193,Tryz.ntmps193;go_wp2;go_ret;exact ⟨rfl,rfl⟩
theorem hard_vote_nil (w:World):Calls Tryz.prog 194 #[.pointer none] w fun e w'=>e=.returned (.int .u64 0)∧w=w':=by
 go_enter Tryz.func194,Tryz.ntmps194;go_wp2;go_ret;exact ⟨rfl,rfl⟩
theorem hard_commit_nil (w:World):Calls Tryz.prog 195 #[.pointer none] w fun e w'=>e=.returned (.int .u64 0)∧w=w':=by
 go_enter Tryz.func195,Tryz.ntmps195;go_wp2;go_ret;exact ⟨rfl,rfl⟩
def vsize (n:Nat):Nat:=if n<128 then 1 else 1+vsize (n / 128)
theorem vsize_lt {n:Nat} (h:n<128):vsize n=1:=by rw [vsize,if_pos h]
theorem vsize_ge {n:Nat} (h:128≤n):vsize n=1+vsize (n / 128):=by rw [vsize,if_neg (by omega)]
theorem vsize_pos (n:Nat):1≤vsize n:=by unfold vsize;split<;>omega
theorem vsize_le (k:Nat):∀n,n<128 ^ k→0<k→vsize n≤k:=by
 induction k with
 |zero=>intro n _ h;omega
 |succ k ih=>
  intro n h _;by_cases h1:n<128
  ·rw [vsize_lt h1];omega
  ·rw [vsize_ge (by omega)];rcases Nat.eq_zero_or_pos k with rfl|hk
   ·simp at h;omega
   ·have:n / 128<128 ^ k:=Nat.div_lt_of_lt_mul (by rw [Nat.pow_succ] at h;omega)
    have:=ih _ this hk
    omega
theorem vsize_le9 {n:Nat} (hn:n<9223372036854775808):vsize n≤9:=vsize_le 9 n (by omega) (by omega)
theorem varint_nat (n:Nat) (w:World) (hn:n<9223372036854775808):
  Calls Tryz.prog 226 #[.int .u64 (n:Int)] w fun e w'=>e=.returned (.int .i64 (vsize n:Nat))∧w=w':=by
 have hv:vsize n≤9:=vsize_le9 hn;go_enter Tryz.func226,Tryz.ntmps226;go_wp2;go_loop [0,3] (fun x k=>∃m j:Nat,m≤n∧j≤9∧Hid (j+vsize m=1+vsize n)∧x=.int .u64 (m:Nat)∧k=.int .i64 (j:Nat)) (fun x _=>(intOf x).toNat)
 case atStart=>exact ⟨n,1,Nat.le_refl _,by omega,rfl,rfl,rfl⟩
 case round=>
  obtain ⟨m,j,hm,hj9,hj,rfl,rfl⟩:=hrel;by_cases h:m<128
  ·go_wp2;have e1:=hj.out;have e2:=vsize_lt h;go_ret;exact ⟨ret_int (by omega),rfl⟩
  ·go_wp2;have e1:=hj.out;have e2:=vsize_ge (n:=m) (by omega);have e3:=vsize_pos (m / 128);refine ⟨⟨m / 128,j+1,by omega,by omega,by unfold Hid;omega,rfl,rfl⟩,?_⟩;simp [intOf];omega
def vsz (x:Int):Int:=(vsize x.toNat:Nat)
theorem vsz_bd {x:Int} (h:x<9223372036854775808):1≤vsz x∧vsz x≤9:=by
 have h1:=vsize_pos x.toNat;have h2:vsize x.toNat≤9:=vsize_le9 (by omega);unfold vsz;omega
theorem varint (x:Int) (w:World) (h0:0≤x) (h1:x<9223372036854775808):
  Calls Tryz.prog 226 #[.int .u64 x] w fun e w'=>e=.returned (.int .i64 (vsz x))∧w=w':=by
 obtain ⟨n,rfl⟩:=Int.eq_ofNat_of_zero_le h0;exact (varint_nat n w (by omega)).mono fun e w' ⟨he,hw⟩=>⟨by rw [he];simp [vsz],hw⟩
def esize (e:Ent):Int:=(if e.kind=0 then 0 else 1+vsz e.kind)+(1+vsz e.term)+(1+vsz e.index)+(if e.data.size=0 then 0 else 1+vsz e.data.size+e.data.size)
structure Ent.ok (e:Ent):Prop where
 t0:0≤e.term
 t1:e.term<4611686018427387904
 i0:0≤e.index
 i1:e.index<4611686018427387904
 k0:0≤e.kind
 k2:e.kind≤2
 d:e.data.size≤200
theorem esize_bd {e:Ent} (h:e.ok):4≤esize e∧esize e≤300:=by
 have h1:=vsz_bd (x:=e.kind) (by have:=h.k2;omega);have h2:=vsz_bd (x:=e.term) (by have:=h.t1;omega);have h3:=vsz_bd (x:=e.index) (by have:=h.i1;omega);have h4:=vsz_bd (x:=(e.data.size:Int)) (by have:=h.d;omega);have:=h.d;unfold esize;split<;>split<;>omega
theorem ent_size {N:Nat} {w:World} {p:Nat} {e:Ent} (h:Kg N w p e True) (hk:e.ok):
  Calls Tryz.prog 222 #[.pointer (some ⟨p,0,none⟩)] w fun e' w'=>e'=.returned (.int .i64 (esize e))∧∃n,w.drewN n=w':=by
 obtain ⟨tp,ip,ty,ds,hb,h1,h2,h3,h4,h5⟩:=h;obtain ⟨⟨bt,rfl⟩,⟨bi,rfl⟩,hty,hds,hnil⟩:=h5 trivial;obtain ⟨t0,t1,i0,i1,k0,k2,hd⟩:=hk;rcases h1 with ⟨h1,_⟩|⟨_,h1,hbt⟩
 ·cases h1
 injection h1 with h1;injection h1 with h1;subst h1
 rcases h2 with ⟨h2,_⟩|⟨_,h2,hbi⟩
 ·cases h2
 injection h2 with h2;injection h2 with h2;subst h2
 have c0:w.cell? ⟨p,0,none⟩=some (pp bt):=hb.cell 0;have c1:w.cell? ⟨p,1,none⟩=some (pp bi):=hb.cell 1;have c2:w.cell? ⟨p,2,none⟩=some (.pointer ty):=hb.cell 2;have c3:w.cell? ⟨p,3,none⟩=some (.slice ds.A ds.n ds.c):=hb.cell 3;have ct:w.cell? ⟨bt,0,none⟩=some (.int .u64 e.term):=hbt.cell 0;have ci:w.cell? ⟨bi,0,none⟩=some (.int .u64 e.index):=hbi.cell 0;have hn:e.data.size=ds.n:=h4.1.len;have b2:=vsz_bd (x:=e.term) (by omega);have b3:=vsz_bd (x:=e.index) (by omega);have b4:=vsz_bd (x:=(ds.n:Int)) (by omega);have hE:esize e=(if e.kind=0 then 0 else 1+vsz e.kind)+(1+vsz e.term)+(1+vsz e.index)+(if ds.n=0 then 0 else 1+vsz ds.n+ds.n):=by
  unfold esize;rw [hn]
 have HE:=qq hE;have hdn:ds.n≤200:=by omega
 rw [hn] at hds;have hcase:(ds.n=0∧ds.A=none∧ds.c=0)∨(ds.n≠0∧∃ad,ds.A=some ad):=by
  rcases hA:ds.A with _|ad
  ·have:=hnil hA;rw [this];exact .inl ⟨rfl,rfl,rfl⟩
  ·refine .inr ⟨fun h0=>?_,ad,rfl⟩;rw [hA] at hds;exact absurd (hds.2 h0) (by simp)
 have hty':(ty=none∧e.kind=0)∨(e.kind≠0∧∃yb,ty=some ⟨yb,0,none⟩∧Blk w yb 221 #[.int .i32 e.kind]):=by
  rcases h3 with h3|⟨yb,h3,hby⟩
  ·exact .inl h3
  ·exact .inr ⟨fun h0=>(by rw [hty.2 h0] at h3;cases h3),yb,h3,hby⟩
 clear hE hb hbt hbi h4 hn hds hnil hty h3 h5;rcases hcase with ⟨d1,d2,d3⟩|⟨d1,ad,d2⟩
 ·rw [d1,d2,d3] at c3;have HD:=qq d1;clear d1 d2 d3;rcases hty' with ⟨rfl,hk⟩|⟨hk,yb,rfl,hby⟩
  ·have HK:=qq hk;clear hk;go_enter Tryz.func222,Tryz.ntmps222;go_wp2_with (go_at_call 226;refine (varint _ _ (by omega) (by omega)).mono ?_;rintro e w' ⟨rfl,rfl⟩)
   go_ret;refine ⟨ret_int ?_,0,rfl⟩;rw [HE.out];rw [if_pos HK.out];rw [if_pos HD.out];all_goals omega
  ·have cy:w.cell? ⟨yb,0,none⟩=some (.int .i32 e.kind):=hby.cell 0;have b1:=vsz_bd (x:=e.kind) (by omega);have HK:=qq hk;clear hk hby;go_enter Tryz.func222,Tryz.ntmps222;go_wp2_with (go_at_call 226;refine (varint _ _ (by omega) (by omega)).mono ?_;rintro e w' ⟨rfl,rfl⟩)
   go_ret;refine ⟨ret_int ?_,0,rfl⟩;rw [HE.out];rw [if_neg HK.out];rw [if_pos HD.out];all_goals omega
 ·rw [d2] at c3;have HD:=qq d1;clear d1 d2;rcases hty' with ⟨rfl,hk⟩|⟨hk,yb,rfl,hby⟩
  ·have HK:=qq hk;clear hk;go_enter Tryz.func222,Tryz.ntmps222;go_wp2_with (go_at_call 226;refine (varint _ _ (by omega) (by omega)).mono ?_;rintro e w' ⟨rfl,rfl⟩)
   go_quiet ((go_at_call 226;exact Jj (varint _ _ (by omega) (by omega))))
   go_wp2;go_ret;refine ⟨ret_int ?_,_,rfl⟩;rw [HE.out];rw [if_pos HK.out];rw [if_neg HD.out];all_goals omega
  ·have cy:w.cell? ⟨yb,0,none⟩=some (.int .i32 e.kind):=hby.cell 0;have b1:=vsz_bd (x:=e.kind) (by omega);have HK:=qq hk;clear hk hby;go_enter Tryz.func222,Tryz.ntmps222;go_wp2_with (go_at_call 226;refine (varint _ _ (by omega) (by omega)).mono ?_;rintro e w' ⟨rfl,rfl⟩)
   go_quiet ((go_at_call 226;exact Jj (varint _ _ (by omega) (by omega))))
   go_wp2;go_ret;refine ⟨ret_int ?_,_,rfl⟩;rw [HE.out];rw [if_neg HK.out];rw [if_neg HD.out];all_goals omega
end Go.Proofs.YtmagnkjodjmojaaGreat
