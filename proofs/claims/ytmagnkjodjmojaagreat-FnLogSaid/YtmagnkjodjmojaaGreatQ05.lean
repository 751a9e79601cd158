/- A part of the proof of FnLog: laws and walks, with their conditions written at each. -/
import Derived.Test.YtmagnkjodjmojaaGreatQ04
set_option maxRecDepth 20000
set_option maxHeartbeats 4000000
set_option linter.all false
namespace Go.Proofs.YtmagnkjodjmojaaGreat
open Go.RowKit
def errCompS:ByteArray:=⟨#[114,101,113,117,101,115,116,101,100,32,105,110,100,101,120,32,105,115,32,117,110,97,118,97,105,108,97,98,108,101,32,100,117,101,32,116,111,32,99,111,109,112,97,99,116,105,111,110]⟩
def errUnavS:ByteArray:=⟨#[114,101,113,117,101,115,116,101,100,32,101,110,116,114,121,32,97,116,32,105,110,100,101,120,32,105,115,32,117,110,97,118,97,105,108,97,98,108,101]⟩
def errOldS:ByteArray:=⟨#[114,101,113,117,101,115,116,101,100,32,105,110,100,101,120,32,105,115,32,111,108,100,101,114,32,116,104,97,110,32,116,104,101,32,101,120,105,115,116,105,110,103,32,115,110,97,112,115,104,111,116]⟩
def errV (e:Int):Value:=if e=0 then .nilIface else if e=1 then .iface 176 (.string errCompS) else if e=2 then .iface 176 (.string errOldS) else .iface 176 (.string errUnavS)
structure SId where
 ms:Nat
 sn:Nat
 md:Nat
 es:SlV
def RdHard (w:World) (hp:Option Addr):Prop:=
 hp=none∨∃p a b c x y z,hp=some ⟨p,0,none⟩∧Blk w p 248 #[.pointer a,.pointer b,.pointer c]∧OptInt w 23 .u64 a x∧OptInt w 23 .u64 b y∧OptInt w 23 .u64 c z
theorem RdHard.fr {N:Nat} {w w':World} {hp:Option Addr} (h:RdHard w hp) (hf:Fr N w w'):RdHard w' hp:=by
 rcases h with h|⟨p,a,b,c,x,y,z,h,hb,h1,h2,h3⟩
 ·exact .inl h
 ·exact .inr ⟨p,a,b,c,x,y,z,h,hf.blk rfl hb,h1.fr hf rfl,h2.fr hf rfl,h3.fr hf rfl⟩
def msCells (hp:Option Addr) (I:SId) (k1 k2 k3 k4 k5 k6:Int):Array Value:=
 #[.pointer hp,.pointer (some ⟨I.sn,0,none⟩),.slice I.es.A I.es.n I.es.c,.int .i64 k1,.int .i64 k2,.int .i64 k3,.int .i64 k4,.int .i64 k5,.int .i64 k6]
def dum (s:StL):Ent:=⟨s.atT,s.atI,0,⟨#[]⟩⟩
structure Je (N:Nat) (w:World) (I:SId) (s:StL):Prop where
 blk:∃hp k1 k2 k3 k4 k5 k6,Blk w I.ms 134 (msCells hp I k1 k2 k3 k4 k5 k6)∧RdHard w hp
 sn:Kf N w I.sn I.md s.snap
 es:PArr N w 1 I.es (dum s::s.L)
 N:N≤I.ms
theorem Je.upd {N:Nat} {w w':World} {I:SId} {s:StL} {S:Nat→Prop} (h:Je N w I s) (hu:Upd S w w') (hf:Fr N w w') (h1:¬S I.ms) (h2:¬S I.sn) (h3:¬S I.md) (h4:∀b o,I.es.A=some ⟨b,o,none⟩→¬S b):Je N w' I s:=by
 obtain ⟨⟨hp,k1,k2,k3,k4,k5,k6,hb,hh⟩,hs,he,hn⟩:=h;exact ⟨⟨hp,k1,k2,k3,k4,k5,k6,hb.upd hu h1,hh.fr hf⟩,hs.upd hu hf h2 h3,he.upd hu hf h4,hn⟩
theorem Je.stats {N:Nat} {w w':World} {I:SId} {s:StL} (h:Je N w I s) (hu:Upd (fun k=>k=I.ms) w w')
  (hb:∃hp k1 k2 k3 k4 k5 k6,Blk w' I.ms 134 (msCells hp I k1 k2 k3 k4 k5 k6)∧RdHard w hp):Je N w' I s:=by
 obtain ⟨⟨_,_,_,_,_,_,_,hb0,_⟩,hs,he,hn⟩:=h;obtain ⟨hp,k1,k2,k3,k4,k5,k6,hb,hh⟩:=hb;have hf:Fr N w w':=hu.fr (by rintro k rfl;exact hb0.mutb hn rfl);obtain ⟨ds,cf,ix,tm,hb1,hm1,_⟩:=id hs;refine ⟨⟨hp,k1,k2,k3,k4,k5,k6,hb,hh.fr hf⟩,hs.upd hu hf (fun h=>hb1.ne_ hb0 (by decide) h) (fun h=>hm1.ne_ hb0 (by decide) h),he.upd hu hf (fun b o hA h=>?_),hn⟩;have hc:0<I.es.c:=by
  have:=he.cap;have:=he.len;simp at this;omega
 obtain ⟨g,o',cs,hA',hB,_⟩:=he.arr hc;rw [hA] at hA';cases hA';exact hB.ne_ hb0 (by decide) h
section
variable {N:Nat} {w:World} {I:SId} {s:StL}
theorem Je.ents_at (h:Je N w I s) {j:Nat} (hj:j≤s.L.length):∃b o p,I.es.A=some ⟨b,o,none⟩∧w.cell? ⟨b,o+j,none⟩=some (.pointer (some ⟨p,0,none⟩))∧Kg N w p ((dum s::s.L).getD j default) (1≤j)∧b≠I.ms:=by
 have hn:j<I.es.n:=by have:=h.es.len;simp at this;omega
 obtain ⟨b,o,p,hA,hc,hp⟩:=h.es.at_ hn;refine ⟨b,o,p,hA,hc,hp,?_⟩;obtain ⟨g,o',cs,hA',hB,_⟩:=h.es.arr (by have:=h.es.cap;omega);rw [hA] at hA';cases hA';obtain ⟨_,_,_,_,_,_,_,hb0,_⟩:=h.blk;exact hB.ne_ hb0 (by decide)
theorem Je.stat (h:Je N w I s) {j:Nat} (h3:3≤j) (h8:j≤8):∃k,w.cell? ⟨I.ms,j,none⟩=some (.int .i64 k)∧w.frozen? ⟨I.ms,j,none⟩=false:=by
 obtain ⟨hp,k1,k2,k3,k4,k5,k6,hb,_⟩:=h.blk;have hf:=hb.frozen j;match j,h3,h8 with
 |3,_,_=>exact ⟨k1,hb.cell 3,hf⟩
 |4,_,_=>exact ⟨k2,hb.cell 4,hf⟩
 |5,_,_=>exact ⟨k3,hb.cell 5,hf⟩
 |6,_,_=>exact ⟨k4,hb.cell 6,hf⟩
 |7,_,_=>exact ⟨k5,hb.cell 7,hf⟩
 |8,_,_=>exact ⟨k6,hb.cell 8,hf⟩
theorem Je.bump (h:Je N w I s) {j:Nat} (h3:3≤j) (h8:j≤8) (v:Int):
  Je N (w.setCell ⟨I.ms,j,none⟩ (.int .i64 v)) I s∧Upd (fun k=>k=I.ms) w (w.setCell ⟨I.ms,j,none⟩ (.int .i64 v)):=by
 have hu:Upd (fun k=>k=I.ms) w (w.setCell ⟨I.ms,j,none⟩ (.int .i64 v)):=(Upd.refl (fun k=>k=I.ms) w).setCell (a:=⟨I.ms,j,none⟩) (.inl rfl) _;refine ⟨h.stats hu ?_,hu⟩;obtain ⟨hp,k1,k2,k3,k4,k5,k6,hb,hh⟩:=h.blk;have hb':=hb.set_ j (.int .i64 v);match j,h3,h8 with
 |3,_,_=>exact ⟨hp,v,k2,k3,k4,k5,k6,hb',hh⟩
 |4,_,_=>exact ⟨hp,k1,v,k3,k4,k5,k6,hb',hh⟩
 |5,_,_=>exact ⟨hp,k1,k2,v,k4,k5,k6,hb',hh⟩
 |6,_,_=>exact ⟨hp,k1,k2,k3,v,k5,k6,hb',hh⟩
 |7,_,_=>exact ⟨hp,k1,k2,k3,k4,v,k6,hb',hh⟩
 |8,_,_=>exact ⟨hp,k1,k2,k3,k4,k5,v,hb',hh⟩
theorem Je.c1 (h:Je N w I s):w.cell? ⟨I.ms,1,none⟩=some (.pointer (some ⟨I.sn,0,none⟩)):=by
 obtain ⟨hp,k1,k2,k3,k4,k5,k6,hb,_⟩:=h.blk;exact hb.cell 1
theorem Je.c2 (h:Je N w I s):w.cell? ⟨I.ms,2,none⟩=some (.slice I.es.A I.es.n I.es.c):=by
 obtain ⟨hp,k1,k2,k3,k4,k5,k6,hb,_⟩:=h.blk;exact hb.cell 2
theorem Je.n (h:Je N w I s):I.es.n=s.L.length+1:=by have:=h.es.len;simp at this;omega
theorem StL.Ok.atI_lt (ho:s.Ok):s.atI<4611686018427387904:=by have:=ho.last;unfold StL.last at this;omega
theorem st_first (h:Je N w I s) (ho:s.Ok):
  Calls Tryz.prog 187 #[.pointer (some ⟨I.ms,0,none⟩)] w fun e w'=>e=.returned (.int .u64 s.first)∧w=w':=by
 obtain ⟨b,o,p,hA,hc,⟨tp,ip,ty,ds,q1,q2,q3,_⟩,hne⟩:=h.ents_at (j:=0) (by omega);have c2:=h.c2;rw [hA] at c2;simp only [List.getD_cons_zero,Nat.add_zero] at hc q2 q3;have hpos:(0:Int)<(I.es.n:Int):=by have:=h.n;omega
 have i0:=ho.i0;have i1:=ho.atI_lt;have hE:s.first=s.atI+1:=rfl;rw [hE];change OptInt w 23 .u64 ip s.atI at q3;clear h ho hne hE q2 hA;go_enter Tryz.func187,Tryz.ntmps187;go_wp2_with fail
 refine (ent_index q1 q3).mono ?_;rintro r w' ⟨rfl,rfl⟩;go_wp2;go_ret;exact ⟨rfl,rfl⟩
theorem st_last (h:Je N w I s) (ho:s.Ok):
  Calls Tryz.prog 188 #[.pointer (some ⟨I.ms,0,none⟩)] w fun e w'=>e=.returned (.int .u64 s.last)∧∃n,w.drewN n=w':=by
 obtain ⟨b,o,p,hA,hc,⟨tp,ip,ty,ds,q1,q2,q3,_⟩,hne⟩:=h.ents_at (j:=0) (by omega);have c2:=h.c2;rw [hA] at c2;simp only [List.getD_cons_zero,Nat.add_zero] at hc q2 q3;have hpos:(0:Int)<(I.es.n:Int):=by have:=h.n;omega
 have i0:=ho.i0;have i1:=ho.atI_lt;have hlen:=ho.len;have hn:=h.n;have hE:s.last=s.atI+(I.es.n:Int) - 1:=by unfold StL.last;omega
 have hn2:I.es.n≤20001:=by omega
 rw [hE];change OptInt w 23 .u64 ip s.atI at q3;clear h ho hne hE q2 hA hn;go_enter Tryz.func188,Tryz.ntmps188;go_wp2_with fail
 go_quiet ((go_at_call 150;exact Jj (ent_index q1 q3)))
 go_wp2;go_ret;exact ⟨rfl,_,rfl⟩
theorem stFirst (h:Je N w I s) (ho:s.Ok):
  Calls Tryz.prog 131 #[.pointer (some ⟨I.ms,0,none⟩)] w fun e w'=>e=.returned (.tuple #[.int .u64 s.first,.nilIface])∧Je N w' I s∧Upd (fun k=>k=I.ms) w w':=by
 obtain ⟨k,c4,y4⟩:=h.stat (j:=4) (by omega) (by omega);have HB:=qq (fun v=>h.bump (j:=4) (by omega) (by omega) v);have HO:=qq ho;clear h ho;go_enter Tryz.func131,Tryz.ntmps131;go_wp2_with fail
 refine (st_first (HB.out _).1 HO.out).mono ?_;rintro r w' ⟨rfl,rfl⟩;go_wp2;go_ret2;exact ⟨rfl,HB.out _⟩
theorem stLast (h:Je N w I s) (ho:s.Ok):
  Calls Tryz.prog 132 #[.pointer (some ⟨I.ms,0,none⟩)] w fun e w'=>e=.returned (.tuple #[.int .u64 s.last,.nilIface])∧Je N w' I s∧Upd (fun k=>k=I.ms) w w':=by
 obtain ⟨k,c4,y4⟩:=h.stat (j:=5) (by omega) (by omega);have HB:=qq (fun v=>h.bump (j:=5) (by omega) (by omega) v);have HO:=qq ho;clear h ho;go_enter Tryz.func132,Tryz.ntmps132;go_wp2_with fail
 refine (st_last (HB.out _).1 HO.out).mono ?_;rintro r w' ⟨rfl,m,rfl⟩;go_wp2;go_ret2;exact ⟨rfl,(HB.out _).1.upd ((Upd.refl No _).drewN _) ((Upd.refl No _).drewN _).fr0 (fun h=>h) (fun h=>h) (fun h=>h) (fun _ _ _ h=>h),(HB.out _).2.drewN _⟩
theorem wrap_u64_in {x:Int} (h0:0≤x) (h1:x<9223372036854775808):IntKind.u64.wrap x=x:=by simp [IntKind.wrap_u64];omega
theorem errV0:errV 0=.nilIface:=rfl
theorem errV1:errV 1=.iface 176 (.string errCompS):=rfl
theorem errV3:errV 3=.iface 176 (.string errUnavS):=rfl
theorem stTerm (h:Je N w I s) (ho:s.Ok) {i:Int} (h1:s.atI≤i) (h2:i≤s.last):
  Calls Tryz.prog 130 #[.pointer (some ⟨I.ms,0,none⟩),.int .u64 i] w fun e w'=>e=.returned (.tuple #[.int .u64 (s.term i).1,.nilIface])∧Je N w' I s∧Upd (fun k=>k=I.ms) w w':=by
 have i0:=ho.i0;have i1:=ho.atI_lt;have hla:=ho.last;obtain ⟨j,hj⟩:=Int.eq_ofNat_of_zero_le (show 0≤i - s.atI by omega);obtain rfl:i=s.atI+(j:Int):=by omega
 have hjL:j≤s.L.length:=by unfold StL.last at h2;omega
 obtain ⟨b0,o0,p0,hA0,hc0,⟨_,ip,_,_,q1,_,q3,_⟩,hne0⟩:=h.ents_at (j:=0) (by omega);obtain ⟨b,o,p,hA,hc,⟨tp,_,_,_,q4,q5,_⟩,hne⟩:=h.ents_at hjL;rw [hA0] at hA;cases hA;have hT:(s.term (s.atI+(j:Int))).1=((dum s::s.L).getD j default).term:=by
  unfold StL.term;rw [if_neg (by omega),if_neg (by omega)];rcases j with _|j
  ·rw [if_pos (by simp)];rfl
  ·rw [if_neg (by omega)];have:s.atI+((j+1:Nat):Int) - s.first=(j:Int):=by unfold StL.first;omega
   rw [this,ent_nat];rfl
 rw [hT];have c2:=h.c2;rw [hA0] at c2;obtain ⟨k,c7,y7⟩:=h.stat (j:=7) (by omega) (by omega);have HB:=qq (fun v=>h.bump (j:=7) (by omega) (by omega) v);simp only [List.getD_cons_zero,Nat.add_zero] at hc0 q3;change OptInt w 23 .u64 ip s.atI at q3;generalize ((dum s::s.L).getD j default).term=tt at*;have hn:=h.n;have hpos:(0:Int)<(I.es.n:Int):=by omega
 have j1:(0:Int)≤s.atI+(j:Int) - s.atI:=by omega
 have j2:s.atI+(j:Int) - s.atI<(I.es.n:Int):=by omega
 have j3:(s.atI+(j:Int) - s.atI).toNat=j:=by omega
 have hlen:=ho.len;have hn2:I.es.n≤20001:=by omega
 have hms:¬I.ms=b0:=fun h=>hne h.symm;have e1:p0≠I.ms:=by obtain ⟨_,_,_,_,_,_,_,hb,_⟩:=h.blk;exact q1.ne_ hb (by decide)
 have e2:p≠I.ms:=by obtain ⟨_,_,_,_,_,_,_,hb,_⟩:=h.blk;exact q4.ne_ hb (by decide)
 have HF:=qq (fun v=>(h.bump (j:=7) (by omega) (by omega) v).2.fr (N:=N) (by rintro k rfl;obtain ⟨_,_,_,_,_,_,_,hb,_⟩:=h.blk;exact hb.mutb h.N rfl));have HN:=qq hn;clear h ho hT hA0 hn hne hne0;go_enter Tryz.func130,Tryz.ntmps130;go_wp2_with fail
 refine (ent_index (q1.upd (HB.out _).2 (fun h=>e1 h)) (q3.fr (HF.out _) rfl)).mono ?_;rintro r w' ⟨rfl,rfl⟩;go_wp2_with fail
 refine (ent_term (q4.upd (HB.out _).2 (fun h=>e2 h)) (q5.fr (HF.out _) rfl)).mono ?_;rintro r w' ⟨rfl,rfl⟩;go_wp2;go_ret2;exact ⟨rfl,HB.out _⟩
theorem stTerm_low (h:Je N w I s) (ho:s.Ok) {i:Int} (h1:i<s.atI):
  Calls Tryz.prog 130 #[.pointer (some ⟨I.ms,0,none⟩),.int .u64 i] w fun e w'=>e=.returned (.tuple #[.int .u64 0,.iface 176 (.string errCompS)])∧Je N w' I s∧Upd (fun k=>k=I.ms) w w':=by
 have i0:=ho.i0;have i1:=ho.atI_lt;have hla:=ho.last;obtain ⟨b0,o0,p0,hA0,hc0,⟨_,ip,_,_,q1,_,q3,_⟩,hne0⟩:=h.ents_at (j:=0) (by omega);have c2:=h.c2;rw [hA0] at c2;obtain ⟨k,c7,y7⟩:=h.stat (j:=7) (by omega) (by omega);have HB:=qq (fun v=>h.bump (j:=7) (by omega) (by omega) v);simp only [List.getD_cons_zero,Nat.add_zero] at hc0 q3;change OptInt w 23 .u64 ip s.atI at q3;have hn:=h.n;have hpos:(0:Int)<(I.es.n:Int):=by omega
 have hlen:=ho.len;have hn2:I.es.n≤20001:=by omega
 have hms:¬I.ms=b0:=fun h=>hne0 h.symm;have e1:p0≠I.ms:=by obtain ⟨_,_,_,_,_,_,_,hb,_⟩:=h.blk;exact q1.ne_ hb (by decide)
 have HF:=qq (fun v=>(h.bump (j:=7) (by omega) (by omega) v).2.fr (N:=N) (by rintro k rfl;obtain ⟨_,_,_,_,_,_,_,hb,_⟩:=h.blk;exact hb.mutb h.N rfl));clear h ho hA0 hn hne0;go_enter Tryz.func130,Tryz.ntmps130;go_wp2_with fail
 refine (ent_index (q1.upd (HB.out _).2 (fun h=>e1 h)) (q3.fr (HF.out _) rfl)).mono ?_;rintro r w' ⟨rfl,rfl⟩;go_wp2;go_ret2;exact ⟨rfl,HB.out _⟩
theorem stTerm_high (h:Je N w I s) (ho:s.Ok) {i:Int} (h1:s.last<i) (h2:i<4611686018427387904):
  Calls Tryz.prog 130 #[.pointer (some ⟨I.ms,0,none⟩),.int .u64 i] w fun e w'=>e=.returned (.tuple #[.int .u64 0,.iface 176 (.string errUnavS)])∧Je N w' I s∧Upd (fun k=>k=I.ms) w w':=by
 have i0:=ho.i0;have i1:=ho.atI_lt;have hla:=ho.last;obtain ⟨b0,o0,p0,hA0,hc0,⟨_,ip,_,_,q1,_,q3,_⟩,hne0⟩:=h.ents_at (j:=0) (by omega);have c2:=h.c2;rw [hA0] at c2;obtain ⟨k,c7,y7⟩:=h.stat (j:=7) (by omega) (by omega);have HB:=qq (fun v=>h.bump (j:=7) (by omega) (by omega) v);simp only [List.getD_cons_zero,Nat.add_zero] at hc0 q3;change OptInt w 23 .u64 ip s.atI at q3;have hn:=h.n;have hpos:(0:Int)<(I.es.n:Int):=by omega
 have hlen:=ho.len;have hn2:I.es.n≤20001:=by omega
 have hms:¬I.ms=b0:=fun h=>hne0 h.symm;have e1:p0≠I.ms:=by obtain ⟨_,_,_,_,_,_,_,hb,_⟩:=h.blk;exact q1.ne_ hb (by decide)
 have HF:=qq (fun v=>(h.bump (j:=7) (by omega) (by omega) v).2.fr (N:=N) (by rintro k rfl;obtain ⟨_,_,_,_,_,_,_,hb,_⟩:=h.blk;exact hb.mutb h.N rfl));have hlast:s.last=s.atI+(I.es.n:Int) - 1:=by unfold StL.last;omega
 have j1:s.atI≤i:=by omega
 have j2:(I.es.n:Int)≤i - s.atI:=by omega
 clear hlast h1;clear h ho hA0 hn hne0;go_enter Tryz.func130,Tryz.ntmps130;go_wp2_with fail
 refine (ent_index (q1.upd (HB.out _).2 (fun h=>e1 h)) (q3.fr (HF.out _) rfl)).mono ?_;rintro r w' ⟨rfl,rfl⟩;go_wp2;go_ret2;exact ⟨rfl,HB.out _⟩
end
def sumS (es:List Ent) (k:Nat):Int:=match es,k with
 |[],_=>0
 |_,0=>0
 |e::r,k+1=>esize e+sumS r k
theorem sumS_zero (es:List Ent):sumS es 0=0:=by cases es<;>rfl
theorem sumS_nil (k:Nat):sumS [] k=0:=rfl
theorem sumS_cons (e:Ent) (r:List Ent) (k:Nat):sumS (e::r) (k+1)=esize e+sumS r k:=rfl
theorem sumS_succ (es:List Ent):∀k,k<es.length→sumS es (k+1)=sumS es k+esize (es.getD k default):=by
 induction es with
 |nil=>intro k h;simp at h
 |cons e r ih=>
  intro k h;rcases k with _|k
  ·rw [sumS_cons,sumS_zero,sumS_zero];simp
  ·rw [sumS_cons,sumS_cons,ih k (by simpa using h)];simp only [List.getD_cons_succ];omega
def AllOk (es:List Ent):Prop:=∀j,j<es.length→(es.getD j default).ok
theorem sumS_bd {es:List Ent} (h:AllOk es):∀k,k≤es.length→0≤sumS es k∧sumS es k≤300*k:=by
 intro k;induction k with
 |zero=>intro _;rw [sumS_zero];simp
 |succ k ih=>
  intro hk;have h1:=ih (by omega);have h2:=esize_bd (h k (by omega));rw [sumS_succ es k (by omega)];omega
theorem sumS_mono {es:List Ent} (h:AllOk es) {j k:Nat} (hjk:j≤k) (hk:k≤es.length):sumS es j≤sumS es k:=by
 induction k with
 |zero=>rw [show j=0 by omega];omega
 |succ k ih=>
  rcases Nat.lt_or_ge j (k+1) with hl|hl
  ·have h1:=ih (by omega) (by omega);have h2:=esize_bd (h k (by omega));rw [sumS_succ es k (by omega)];omega
  ·rw [show j=k+1 by omega];omega
theorem sumS_lt {es:List Ent} (h:AllOk es) {j k:Nat} (hjk:j<k) (hk:k≤es.length):sumS es j<sumS es k:=by
 have h1:=sumS_mono h (show j+1≤k from hjk) hk;have h2:=esize_bd (h j (by omega));rw [sumS_succ es j (by omega)] at h1;omega
def limN (max:Int):Int→List Ent→Nat
 |_,[]=>0
 |sum,e::r=>if sum+esize e≤max then 1+limN max (sum+esize e) r else 0
def lim (es:List Ent) (max:Int):Nat:=if es.length=0 then 0 else if limN max 0 es=0 then 1 else limN max 0 es
theorem limN_le (max:Int):∀(es:List Ent) (s:Int),limN max s es≤es.length:=by
 intro es;induction es with
 |nil=>intro s;simp [limN]
 |cons e r ih=>
  intro s;simp only [limN];split
  ·have:=ih (s+esize e);simp;omega
  ·omega
theorem limN_spec (max:Int):∀(es:List Ent) (s:Int),(0<limN max s es→s+sumS es (limN max s es)≤max)∧(limN max s es<es.length→max<s+sumS es (limN max s es+1)):=by
 intro es;induction es with
 |nil=>intro s;simp [limN]
 |cons e r ih=>
  intro s;obtain ⟨h1,h2⟩:=ih (s+esize e);simp only [limN];split
  ·rename_i hle
   refine ⟨fun _=>?_,fun h=>?_⟩
   ·rw [Nat.add_comm 1,sumS_cons];rcases Nat.eq_zero_or_pos (limN max (s+esize e) r) with h0|h0
    ·rw [h0,sumS_zero];omega
    ·have:=h1 h0;omega
   ·rw [Nat.add_comm 1,sumS_cons];have:=h2 (by simp at h;omega);omega
  ·rename_i hle
   refine ⟨fun h=>absurd h (Nat.lt_irrefl 0),fun _=>?_⟩;rw [sumS_cons,sumS_zero];omega
theorem lim_le (es:List Ent) (max:Int):lim es max≤es.length:=by
 unfold lim;have:=limN_le max es 0;split
 ·omega
 ·split<;>omega
theorem lim_eq {es:List Ent} (h:AllOk es) {max:Int} {k:Nat} (h1:1≤k) (h2:k≤es.length) (hk:k=1∨sumS es k≤max) (hn:k=es.length∨max<sumS es (k+1)):lim es max=k:=by
 obtain ⟨s1,s2⟩:=limN_spec max es 0;have hl:=limN_le max es 0;simp only [Int.zero_add] at s1 s2;unfold lim;rw [if_neg (by omega)];split
 ·rename_i h0
  rw [h0] at s2;have s3:=s2 (by omega);rcases hk with hk|hk
  ·exact hk.symm
  ·have:=sumS_mono h (show 0+1≤k by omega) h2
   omega
 ·rename_i h0
  have s3:=s1 (by omega);rcases Nat.lt_trichotomy (limN max 0 es) k with hlt|heq|hgt
  ·have s4:=s2 (by omega);rcases hk with hk|hk
   ·omega
   ·have:=sumS_mono h (show limN max 0 es+1≤k from hlt) h2
    omega
  ·exact heq
  ·rcases hn with hn|hn
   ·omega
   ·have:=sumS_mono h (show k+1≤limN max 0 es from hgt) hl
    omega
theorem PArr.take_ {N:Nat} {w:World} {d:Nat} {s:SlV} {es:List Ent} (h:PArr N w d s es) {k c:Nat} (hk:k≤s.n) (hc:k≤c) (hcs:c≤s.c):PArr N w d ⟨s.A,k,c⟩ (es.take k):=by
 have hl:=h.len;refine ⟨by simp;omega,hc,fun h0=>?_⟩;simp only at h0;obtain ⟨g,o,cs,hA,hB,ho,hN,hj⟩:=h.arr (by omega);refine ⟨g,o,cs,hA,hB,by simp only;omega,hN,fun j hj'=>?_⟩;simp only at hj';obtain ⟨p,hp,he⟩:=hj j (by omega);refine ⟨p,hp,?_⟩;have:(es.take k).getD j default=es.getD j default:=by
  simp only [List.getD_eq_getElem?_getD,List.getElem?_take];rw [if_pos (by omega)]
 rw [this];exact he
def LimRel (es:List Ent) (max:Int) (w:World) (x i:Value) (wr:World):Prop:=
 ∃k:Nat,1≤k∧k≤es.length∧i=.int .i64 (k:Nat)∧x=.int .u64 (sumS es k)∧(k=1∨sumS es k≤max)∧∃n,w.drewN n=wr
theorem limitSize {N:Nat} {w:World} {s:SlV} {es:List Ent} {max:Int} (h:PArr N w 0 s es) (hok:AllOk es) (hlen:es.length≤100000) (hm:0≤max):
  Calls Tryz.prog 192 #[.slice s.A s.n s.c,.int .u64 max] w fun e w'=>e=.returned (.slice s.A (lim es max) s.c)∧∃n,w.drewN n=w':=by
 have hl:=h.len;have H:=qq h;have HK:=qq hok;by_cases h0:s.n=0
 ·have hL:lim es max=s.n:=by unfold lim;rw [if_pos (by omega),h0]
  have HL:=qq hL;have hz:((s.n:Int)==0)=true:=by rw [beq_iff_eq];omega
  clear h hok hl h0 hL;go_enter Tryz.func192,Tryz.ntmps192;go_wp2;go_ret;exact ⟨by rw [HL.out];rfl,0,rfl⟩
 ·have hz:((s.n:Int)==0)=false:=beq_eq_false_iff_ne.2 (by omega);obtain ⟨b,o,p,hA,hc,hp⟩:=h.at_ (k:=0) (by omega);have hA':=hA;rw [hA];have hok0:=hok 0 (by omega);have hpos:(0:Int)<(s.n:Int):=by omega
  have hs1:sumS es 1=esize (es.getD 0 default):=by rw [sumS_succ es 0 (by omega),sumS_zero];omega
  have hb0:=esize_bd hok0;have HS:=qq hs1;have HL:=qq hl;have HA:=qq hA';rw [Nat.add_zero] at hc;generalize es.getD 0 default=e0 at*;clear h hok hl hs1 hA hA';go_enter Tryz.func192,Tryz.ntmps192;go_wp2_with fail
  refine (ent_size (hp.weak fun _=>Nat.le_refl 0) hok0).mono ?_;rintro r w' ⟨rfl,m,rfl⟩;go_wp2_with fail
  go_loopw [5,6] (LimRel es max w) (fun _ i _=>s.n - (intOf i).toNat)
  case atStart=>exact ⟨1,Nat.le_refl _,by have:=HL.out;omega,rfl,by rw [HS.out],.inl rfl,_,rfl⟩
  case round=>
   obtain ⟨k,k1,k2,rfl,rfl,hk,n,rfl⟩:=hrel;have HKK:=qq hk;clear hk;have hb:=sumS_bd HK.out k k2;by_cases hlt:k<s.n
   ·obtain ⟨b',o',p',hA2,hc2,hp2⟩:=H.out.at_ hlt;rw [HA.out] at hA2;cases hA2;have hok1:=HK.out k (by have:=HL.out;omega);have hsu:=sumS_succ es k (by have:=HL.out;omega);have hb1:=esize_bd hok1;generalize es.getD k default=e1 at*;have HSU:=qq hsu;clear hsu;have hsn:s.n≤100000:=by have:=HL.out;omega
    have hkc:k≤s.c:=by have:=H.out.cap;omega
    by_cases hgt:max<sumS es k+esize e1
    ·go_wp2_with fail
     refine (ent_size ((hp2.weak fun _=>Nat.zero_le _).fr ((Upd.refl No w).drewN _).fr0) hok1).mono ?_;rintro r w' ⟨rfl,m2,rfl⟩;go_wp2;go_ret;have hL:lim es max=k:=lim_eq HK.out k1 (by have:=HL.out;omega) HKK.out (.inr (by rw [HSU.out];exact hgt));exact ⟨by rw [hL];rfl,_,rfl⟩
    ·go_wp2_with fail
     refine (ent_size ((hp2.weak fun _=>Nat.zero_le _).fr ((Upd.refl No w).drewN _).fr0) hok1).mono ?_;rintro r w' ⟨rfl,m2,rfl⟩;go_wp2;go_roundw
     case measure=>simp [intOf];omega
     case rel=>exact ⟨k+1,by omega,by have:=HL.out;omega,by go_num,by rw [HSU.out],.inr (by rw [HSU.out];omega),_,rfl⟩
   ·have hkn:k=s.n:=by have:=HL.out;omega
    have HKN:=qq hkn;clear hkn;have hge:(s.n:Int)≤(k:Int):=by omega
    go_wp2;go_ret;have hL:lim es max=s.n:=lim_eq HK.out (by have:=HKN.out;omega) (by have:=HL.out;omega) (by rw [←HKN.out];exact HKK.out) (.inl HL.out.symm);exact ⟨by rw [hL];rfl,_,rfl⟩
theorem PArr.drop_ {N:Nat} {w:World} {d:Nat} {b0 o0 n c:Nat} {es:List Ent} (h:PArr N w d ⟨some ⟨b0,o0,none⟩,n,c⟩ es) {a:Nat} (ha:a≤n):PArr N w (d - a) ⟨some ⟨b0,o0+a,none⟩,n - a,c - a⟩ (es.drop a):=by
 have hl:=h.len;have hc:=h.cap;simp only at hl hc;refine ⟨by simp;omega,by simp only;omega,fun h0=>?_⟩;simp only at h0;obtain ⟨g,o,cs,hA,hB,ho,hN,hj⟩:=h.arr (by simp only;omega);cases hA;refine ⟨_,_,cs,rfl,hB,by simp only at ho ⊢;omega,hN,fun j hj'=>?_⟩;simp only at hj';obtain ⟨p,hp,he⟩:=hj (a+j) (by simp only;omega);refine ⟨p,by rw [←hp];congr 1;omega,?_⟩;have:(es.drop a).getD j default=es.getD (a+j) default:=by
  simp only [List.getD_eq_getElem?_getD,List.getElem?_drop]
 rw [this];exact he.weak fun _=>by omega
def StL.sub (s:StL) (lo hi:Int):List Ent:=(s.L.take (hi - s.first).toNat).drop (lo - s.first).toNat
section
variable {N:Nat} {w:World} {I:SId} {s:StL}
theorem Je.drewN (h:Je N w I s) (n:Nat):Je N (w.drewN n) I s:=h.upd ((Upd.refl No w).drewN n) ((Upd.refl No w).drewN n).fr0 (fun h=>h) (fun h=>h) (fun h=>h) (fun _ _ _ h=>h)
theorem StL.sub_ok (ho:s.Ok) (lo hi:Int):AllOk (s.sub lo hi):=by
 intro j hj;unfold StL.sub at hj ⊢;simp only [List.length_drop,List.length_take] at hj;rw [getD_cut (by omega)];exact ho.ok _ (by omega)
theorem StL.sub_len (s:StL) {lo hi:Int} (h1:s.first≤lo) (h2:lo≤hi) (h3:hi≤s.last+1):((s.sub lo hi).length:Int)=hi - lo:=by
 unfold StL.sub StL.first StL.last at*;simp only [List.length_drop,List.length_take];omega
theorem stEntries (h:Je N w I s) (ho:s.Ok) {lo hi max:Int} (h1:s.first≤lo) (h2:lo<hi) (h3:hi≤s.last+1) (hm:0≤max):
  Calls Tryz.prog 129 #[.pointer (some ⟨I.ms,0,none⟩),.int .u64 lo,.int .u64 hi,.int .u64 max] w fun e w'=>
   ∃t:SlV,e=.returned (.tuple #[.slice t.A t.n t.c,.nilIface])∧t.n=t.c∧PArr N w' 0 t ((s.sub lo hi).take (lim (s.sub lo hi) max))∧Je N w' I s∧Upd (fun k=>k=I.ms) w w':=by
 have i0:=ho.i0;have i1:=ho.atI_lt;have hla:=ho.last;have hso:=StL.sub_ok ho lo hi;have hsl:=s.sub_len h1 (by omega) h3;have hlim:=lim_le (s.sub lo hi) max;have hlim1:1≤lim (s.sub lo hi) max:=by
  unfold lim;rw [if_neg (by omega)];split<;>omega
 obtain ⟨a,hja⟩:=Int.eq_ofNat_of_zero_le (show 0≤lo - s.atI by unfold StL.first at h1;omega);obtain ⟨b,hjb⟩:=Int.eq_ofNat_of_zero_le (show 0≤hi - s.atI by unfold StL.first at h1;omega);obtain rfl:lo=s.atI+(a:Int):=by omega
 obtain rfl:hi=s.atI+(b:Int):=by omega
 have ha1:1≤a:=by unfold StL.first at h1;omega
 have hab:a<b:=by omega
 have hn:=h.n;have hbn:b≤I.es.n:=by unfold StL.last at h3;omega
 have hcap:=h.es.cap;obtain ⟨b0,o0,p0,hA0,hc0,⟨_,ip,_,_,q1,_,q3,_⟩,hne0⟩:=h.ents_at (j:=0) (by omega);have c2:=h.c2;rw [hA0] at c2;obtain ⟨k,c6,y6⟩:=h.stat (j:=6) (by omega) (by omega);have HB:=qq (fun v=>h.bump (j:=6) (by omega) (by omega) v);simp only [List.getD_cons_zero,Nat.add_zero] at hc0 q3;change OptInt w 23 .u64 ip s.atI at q3;have hpos:(0:Int)<(I.es.n:Int):=by omega
 have hms:¬I.ms=b0:=fun h=>hne0 h.symm;have e1:p0≠I.ms:=by obtain ⟨_,_,_,_,_,_,_,hb,_⟩:=h.blk;exact q1.ne_ hb (by decide)
 have HF:=qq (fun v=>(h.bump (j:=6) (by omega) (by omega) v).2.fr (N:=N) (by rintro k rfl;obtain ⟨_,_,_,_,_,_,_,hb,_⟩:=h.blk;exact hb.mutb h.N rfl));have hE:s.sub (s.atI+(a:Int)) (s.atI+(b:Int))=((dum s::s.L).take b).drop a:=by
  unfold StL.sub StL.first;rw [show (s.atI+(b:Int) - (s.atI+1)).toNat=b - 1 by omega,show (s.atI+(a:Int) - (s.atI+1)).toNat=a - 1 by omega];obtain ⟨a',rfl⟩:∃a',a=a'+1:=⟨a - 1,by omega⟩;obtain ⟨b',rfl⟩:∃b',b=b'+1:=⟨b - 1,by omega⟩;simp
 have hPA:∀W:World,PArr N W 1 I.es (dum s::s.L)→PArr N W 0 ⟨some ⟨b0,o0+a,none⟩,b - a,I.es.c - a⟩ (s.sub (s.atI+(a:Int)) (s.atI+(b:Int))):=by
  intro W hW;have h4:=hW.take_ (k:=b) (c:=I.es.c) hbn (by omega) (Nat.le_refl _);rw [hA0] at h4;rw [hE];have h5:=h4.drop_ (a:=a) (by omega);rw [show 1 - a=0 by omega] at h5;exact h5
 have hlen:(s.sub (s.atI+(a:Int)) (s.atI+(b:Int))).length≤100000:=by have:=ho.len;omega
 have hse:(s.sub (s.atI+(a:Int)) (s.atI+(b:Int))).length=b - a:=by omega
 generalize hS:s.sub (s.atI+(a:Int)) (s.atI+(b:Int))=sub at*;have j1:(0:Int)≤s.atI+(a:Int) - s.atI:=by omega
 have j3:(s.atI+(a:Int) - s.atI).toNat=a:=by omega
 have j4:(s.atI+(b:Int) - s.atI).toNat=b:=by omega
 have j5:((I.es.n:Int)==1)=false:=beq_eq_false_iff_ne.2 (by omega);have j6:s.atI+(b:Int)≤s.last+1:=h3;have j7:¬I.es.c=a:=by omega
 have j8:s.last<4611686018427387904:=hla;have j9:0≤s.last:=by unfold StL.last;omega
 have hbc:b≤I.es.c:=by omega
 have hlc:lim sub max≤I.es.c - a:=by omega
 have hc9:I.es.n≤20001:=by have:=ho.len;omega
 have HPA:=qq hPA;have HO:=qq ho;have HSO:=qq hso;have HL1:=qq hlim1;have HHS:=qq hse;clear h ho hA0 hn hne0 hPA hE hso hsl hlim hlim1 hja hjb hse hS;go_enter Tryz.func129,Tryz.ntmps129;go_wp2_with fail
 refine (ent_index (q1.upd (HB.out _).2 (fun h=>e1 h)) (q3.fr (HF.out _) rfl)).mono ?_;rintro r w' ⟨rfl,rfl⟩;go_wp2_with fail
 refine (st_last (HB.out _).1 HO.out).mono ?_;rintro r w' ⟨rfl,m,rfl⟩;go_wp2_with fail
 refine (limitSize (s:=⟨some ⟨b0,o0+a,none⟩,b - a,I.es.c - a⟩) (HPA.out _ ((HB.out _).1.drewN _).es) HSO.out hlen hm).mono ?_;rintro r w' ⟨rfl,m2,rfl⟩;go_wp2;go_ret2;refine ⟨⟨some ⟨b0,o0+a,none⟩,lim sub max,lim sub max⟩,rfl,rfl,?_,?_,?_⟩
 ·exact (HPA.out _ ((HB.out (wrap64 (k+1))).1.drewN (m+m2)).es).take_ (k:=lim sub max) (c:=lim sub max) (by have:=lim_le sub max;have:=HHS.out;simp only;omega) (Nat.le_refl _) (by simp only;omega)
 ·exact (HB.out _).1.drewN _
 ·exact (HB.out _).2.drewN _
end
end Go.Proofs.YtmagnkjodjmojaaGreat
