/- A part of the proof of FnLog: laws and walks, with their conditions written at each. -/
import Derived.Test.YtmagnkjodjmojaaGreatQ12
set_option maxRecDepth 20000
set_option maxHeartbeats 4000000
set_option linter.all false
namespace Go.Proofs.YtmagnkjodjmojaaGreat
open Go.RowKit
section
variable {N:Nat} {w w' w'':World} {J:LId} {g:LgL} {I I' I'':SId} {s s':StL}
def S3 (I:SId) (k:Nat):Prop:=k=I.ms∨k=I.md∨k=I.sn
theorem S3.st {I:SId} {k:Nat} (h:S3 I k):stS I k:=h.elim .inl fun h=>h.elim (fun h=>.inr (.inr (.inl h))) fun h=>.inr (.inl h)
theorem Je.putSnap (h:Je N w I s) (hu:Upd (fun k=>k=I.md∨k=I.sn) w w') {p:Snap} (hs:Fr N w w'→Kf N w' I.sn I.md p):Je N w' I {s with snap:=p}∧Upd (S3 I) w w'∧Fr N w w':=by
 obtain ⟨h1,h2,h3,h4⟩:=h.snt
 have hf:Fr N w w':=hu.fr (by
  rintro k (rfl|rfl)
  ·exact ⟨h4,.inr ⟨235,h2,rfl⟩⟩
  ·exact ⟨h3,.inr ⟨189,h1,rfl⟩⟩)
 have hne:∀{k:Nat} {T:TypeId},Ty w k T→T≠189→T≠235→¬(k=I.md∨k=I.sn):=by
  rintro k T ht n1 n2 (rfl|rfl)
  ·exact ht.ne_ h2 n2 rfl
  ·exact ht.ne_ h1 n1 rfl
 obtain ⟨hp,k1,k2,k3,k4,k5,k6,hb,hh⟩:=h.blk;refine ⟨⟨⟨hp,k1,k2,k3,k4,k5,k6,hb.upd hu (hne hb.ty (by decide) (by decide)),hh.fr hf⟩,hs hf,h.es.upd_ hu hf (fun b hb ht=>hne ht (by decide) (by decide) hb),h.N⟩,hu.mono (by rintro k (rfl|rfl);exact .inr (.inl rfl);exact .inr (.inr rfl)),hf⟩
theorem Je.putIx (h:Je N w I s) (a:Int):Je N ((w.setCell ⟨I.md,1,none⟩ (.pointer (some ⟨w.heap.size,0,none⟩))).alloc (.cells #[.int .u64 a] 23)) I {s with snap:={s.snap with index:=a}}∧Upd (S3 I) w ((w.setCell ⟨I.md,1,none⟩ (.pointer (some ⟨w.heap.size,0,none⟩))).alloc (.cells #[.int .u64 a] 23)):=by
 have hu:Upd (fun k=>k=I.md∨k=I.sn) w ((w.setCell ⟨I.md,1,none⟩ (pp w.heap.size)).alloc (.cells #[.int .u64 a] 23)):=((Upd.refl _ w).setCell (.inl (.inl rfl)) _).alloc _;obtain ⟨ds,cf,ix0,tm,hb1,hm,hd,hc,hi,ht,n1,n2,n3⟩:=h.sn;have:=h.putSnap hu (p:={s.snap with index:=a}) (fun hf=>⟨ds,cf,w.heap.size,tm,(hb1.far (hb1.ne_ hm (by decide)) _).alloc _,(hm.set_ 1 _).alloc _,hd.fr hf,hc.fr hf,Blk.new_ (by simp),hf.blk rfl ht,n1,n2,n3⟩);exact ⟨this.1,this.2.1⟩
theorem Je.putTm (h:Je N w I s) (a:Int):Je N ((w.setCell ⟨I.md,2,none⟩ (.pointer (some ⟨w.heap.size,0,none⟩))).alloc (.cells #[.int .u64 a] 23)) I {s with snap:={s.snap with term:=a}}∧Upd (S3 I) w ((w.setCell ⟨I.md,2,none⟩ (.pointer (some ⟨w.heap.size,0,none⟩))).alloc (.cells #[.int .u64 a] 23)):=by
 have hu:Upd (fun k=>k=I.md∨k=I.sn) w ((w.setCell ⟨I.md,2,none⟩ (pp w.heap.size)).alloc (.cells #[.int .u64 a] 23)):=((Upd.refl _ w).setCell (.inl (.inl rfl)) _).alloc _;obtain ⟨ds,cf,ix0,tm,hb1,hm,hd,hc,hi,ht,n1,n2,n3⟩:=h.sn;have:=h.putSnap hu (p:={s.snap with term:=a}) (fun hf=>⟨ds,cf,ix0,w.heap.size,(hb1.far (hb1.ne_ hm (by decide)) _).alloc _,(hm.set_ 2 _).alloc _,hd.fr hf,hc.fr hf,hf.blk rfl hi,Blk.new_ (by simp),n1,n2,n3⟩);exact ⟨this.1,this.2.1⟩
theorem Je.putCf (h:Je N w I s) {cf:Nat} {c:Conf} (hb:PbConf N w cf c):Je N (w.setCell ⟨I.md,0,none⟩ (.pointer (some ⟨cf,0,none⟩))) I {s with snap:={s.snap with cf:=c}}∧Upd (S3 I) w (w.setCell ⟨I.md,0,none⟩ (.pointer (some ⟨cf,0,none⟩))):=by
 have hu:Upd (fun k=>k=I.md∨k=I.sn) w (w.setCell ⟨I.md,0,none⟩ (pp cf)):=(Upd.refl _ w).setCell (.inl (.inl rfl)) _;obtain ⟨ds,cf0,ix0,tm0,hb1,hm,hd,hc,hi,ht,n1,n2,n3⟩:=h.sn;have:=h.putSnap hu (p:={s.snap with cf:=c}) (fun hf=>⟨ds,cf,ix0,tm0,hb1.far (hb1.ne_ hm (by decide)) _,hm.set_ 0 _,hd.fr hf,hb.fr hf,hf.blk rfl hi,hf.blk rfl ht,n1,n2,n3⟩);exact ⟨this.1,this.2.1⟩
theorem Je.putDt (h:Je N w I s) {ds:SlV} {d:ByteArray} (hb:RdBytes N w ds d) (hn:ds.A=none→ds=⟨none,0,0⟩):Je N (w.setCell ⟨I.sn,0,none⟩ (.slice ds.A ds.n ds.c)) I {s with snap:={s.snap with data:=d}}∧Upd (S3 I) w (w.setCell ⟨I.sn,0,none⟩ (.slice ds.A ds.n ds.c)):=by
 have hu:Upd (fun k=>k=I.md∨k=I.sn) w (w.setCell ⟨I.sn,0,none⟩ ds.v):=(Upd.refl _ w).setCell (.inl (.inr rfl)) _;obtain ⟨ds0,cf0,ix0,tm0,hb1,hm,hd,hc,hi,ht,n1,n2,n3⟩:=h.sn;have:=h.putSnap hu (p:={s.snap with data:=d}) (fun hf=>⟨ds,cf0,ix0,tm0,hb1.set_ 0 _,hm.far (fun h=>hb1.ne_ hm (by decide) h.symm) _,hb.fr hf,hc.fr hf,hf.blk rfl hi,hf.blk rfl ht,n1,n2,hn⟩);exact ⟨this.1,this.2.1⟩
theorem Je.way (h:Je N w I s):w.cell? ⟨I.ms,1,none⟩=some (.pointer (some ⟨I.sn,0,none⟩))∧w.frozen? ⟨I.ms,1,none⟩=false∧w.cell? ⟨I.sn,1,none⟩=some (.pointer (some ⟨I.md,0,none⟩))∧(∃v,w.cell? ⟨I.sn,0,none⟩=some v)∧w.frozen? ⟨I.sn,0,none⟩=false∧
  (∃v,w.cell? ⟨I.md,0,none⟩=some v)∧(∃v,w.cell? ⟨I.md,1,none⟩=some v)∧(∃v,w.cell? ⟨I.md,2,none⟩=some v)∧(∀j,w.frozen? ⟨I.md,j,none⟩=false):=by
 obtain ⟨ds0,cf0,ix0,tm0,hb1,hm,_⟩:=h.sn;exact ⟨h.c1,h.y1,hb1.cell 1,⟨_,hb1.cell 0⟩,hb1.frozen 0,⟨_,hm.cell 0⟩,⟨_,hm.cell 1⟩,⟨_,hm.cell 2⟩,hm.frozen⟩
theorem stS_fr (h:Je N w I s) (hu:Upd (stS I) w w'):Fr N w w':=Jr.fr ⟨rfl,hu,.inl rfl,.inl rfl,fun _ h=>.inl h⟩ h
theorem Je.upS (_h:Je N w I s) (hu:Upd (stS I) w w'):Jr w w' I I:=⟨rfl,hu,.inl rfl,.inl rfl,fun _ h=>.inl h⟩
theorem stCreate_low {a:Int} {x y:Value} (h:Je N w I s) (hle:a≤s.snap.index):
  Calls Tryz.prog 125 #[.pointer (some ⟨I.ms,0,none⟩),.int .u64 a,x,y] w fun e w'=>e=.returned (.tuple #[.pointer none,.iface 176 (.string errOldS)])∧w=w':=by
 have c1:=h.c1;have A1:=qq h.sn.gm;have A2:=qq h.sn.gi;clear h;generalize s.snap.index=y at*;go_enter Tryz.func125,Tryz.ntmps125;go_wp2_with fail
 refine A1.out.mono ?_;rintro r w1 ⟨rfl,rfl⟩;go_wp2_with fail
 refine A2.out.mono ?_;rintro r w1 ⟨rfl,rfl⟩;go_wp2;go_ret2;exact ⟨rfl,rfl⟩
theorem stCreate {k:Nat} {c0:Nat} {c:Conf} {ds:SlV} {d:ByteArray} (h:Je N w I s) (ho:s.Ok) (hk:k≤s.L.length) (hgt:s.snap.index<s.atI+(k:Int)) (hc:PbConf N w c0 c) (hcs:c.small) (hd:RdBytes N w ds d) (hds:ds.A=none→ds=⟨none,0,0⟩) (hdl:d.size≤200):
  Calls Tryz.prog 125 #[.pointer (some ⟨I.ms,0,none⟩),.int .u64 (s.atI+(k:Int)),.pointer (some ⟨c0,0,none⟩),.slice ds.A ds.n ds.c] w fun e w'=>∃q m,e=.returned (.tuple #[.pointer (some ⟨q,0,none⟩),.nilIface])∧
   Kf N w' q m ⟨d,s.atI+(k:Int),(s.term (s.atI+(k:Int))).1,c⟩∧Je N w' I {s with snap:=⟨d,s.atI+(k:Int),(s.term (s.atI+(k:Int))).1,c⟩}∧Jr w w' I I:=by
 obtain ⟨b1,o1,p1,hA1,hc1,⟨_,ip1,_,_,q1,_,q3,_⟩,hne1⟩:=h.ents_at (j:=0) (by omega);obtain ⟨b2,o2,p2,hA2,hc2,⟨tp2,ip2,_,_,r1,r2,r3,_⟩,hne2⟩:=h.ents_at hk;rw [hA1] at hA2;cases hA2;have hn:=h.n;have hnn:I.es.n≤20001:=by have:=ho.len;omega
 have i0:=ho.i0;have i1:=ho.atI_lt;have hlast:=ho.last;have hT:(s.term (s.atI+(k:Int))).1=((dum s::s.L).getD k default).term:=by
  rcases k with _|j
  ·unfold StL.term;rw [if_neg (by omega),if_neg (by unfold StL.last;omega),if_pos (by simp)];rfl
  ·unfold StL.term;rw [if_neg (by omega),if_neg (by unfold StL.last;omega),if_neg (by omega),show s.atI+((j+1:Nat):Int) - s.first=(j:Int) by unfold StL.first;omega,ent_nat];rfl
 rw [hT];generalize hTT:((dum s::s.L).getD k default).term=T at*;simp only [List.getD_cons_zero,Nat.add_zero] at hc1 q3;change OptInt w 23 .u64 ip1 s.atI at q3;have c1:=h.c1;have c2:=h.c2;rw [hA1] at c2;have he0:(0:Int)<(I.es.n:Int):=by omega
 have HL:=qq (show Calls Tryz.prog 188 #[pp I.ms] w fun e w'=>e=.returned (.int .u64 (s.atI+(I.es.n:Int) - 1))∧∃n,w.drewN n=w' by
  have:=st_last h ho;rw [show s.atI+(I.es.n:Int) - 1=s.last by unfold StL.last;omega];exact this)
 have hg2:¬s.atI+(I.es.n:Int) - 1<s.atI+(k:Int):=by omega
 have hd3:s.atI+(k:Int) - s.atI=(k:Int):=by omega
 have hd4:IntKind.u64.wrap (s.atI+(k:Int) - s.atI)=(k:Int):=by simp [IntKind.wrap_u64];omega
 have hd5:IntKind.u64.wrap (k:Int)=(k:Int):=by simp [IntKind.wrap_u64];omega
 have hkk:(k:Int)<(I.es.n:Int):=by omega
 have hlt:s.atI+(k:Int)<4611686018427387904:=by unfold StL.last at hlast;omega
 have A1:=qq h.sn.gm;have A2:=qq h.sn.gi;have HH:=qq fun (W:World) (hu:Upd No w W)=>h.no hu;have hgt':¬s.atI+(k:Int)≤s.snap.index:=by omega
 have HES:=qq fun (W:World) (hR:Je N W I s)=>(show W.cell? ⟨I.ms,2,none⟩=some (.slice (some ⟨b1,o1,none⟩) I.es.n I.es.c) by have:=hR.c2;rwa [hA1] at this);have HA1:=qq hA1;clear h ho hT hlast hn hTT hgt;generalize s.snap.index=y at*;go_enter Tryz.func125,Tryz.ntmps125;go_wp2_with fail
 refine A1.out.mono ?_;rintro r w1 ⟨rfl,rfl⟩;go_wp2_with fail
 refine A2.out.mono ?_;rintro r w1 ⟨rfl,rfl⟩;go_wp2_with fail
 refine (ent_index q1 q3).mono ?_;rintro r w' ⟨rfl,rfl⟩;go_wp2_with fail
 refine HL.out.mono ?_;rintro r w1 ⟨rfl,n,hw1⟩;have hU1:=qq (show Upd No w w1 by rw [←hw1];exact (Upd.refl No w).drewN n);clear hw1;have R1:=qq (HH.out _ hU1.out);have S1:=qq R1.out.set1;obtain ⟨z1,y1,z2,_,_,_,⟨v1,z3⟩,⟨v2,z4⟩,y3⟩:=R1.out.way;have hlm:I.md<w1.heap.size:=R1.out.snt.2.1.lt;go_wp2_with fail
 refine (ensSnap R1.out.sn).mono ?_;rintro r w2 ⟨rfl,hw2⟩;subst hw2;have hms:I.ms≠I.sn:=R1.out.mst.ne_ R1.out.snt.1 (by decide);have hmd:I.ms≠I.md:=R1.out.mst.ne_ R1.out.snt.2.1 (by decide);have hsd:I.sn≠I.md:=R1.out.snt.1.ne_ R1.out.snt.2.1 (by decide);have hls:I.sn<w1.heap.size:=R1.out.snt.1.lt;go_wp2_with fail
 obtain ⟨w3,hw3⟩:∃W,W=(((w1.setCell {block:=I.ms,off:=1} (Value.pointer (some {block:=I.sn,off:=0}))).setCell {block:=I.md,off:=1} (Value.pointer (some {block:=w1.heap.size,off:=0}))).alloc (Obj.cells #[Value.int IntKind.u64 (s.atI+ ↑k)] 23)):=⟨_,rfl⟩;have X3:=S1.out.putIx (s.atI+(k:Int));rw [show (w1.setCell ⟨I.ms,1,none⟩ (pp I.sn)).heap.size=w1.heap.size by simp] at X3;rw [←hw3] at X3 ⊢;have R3:=qq X3.1;have hU3:Upd No w w1:=hU1.out;have U3:=qq (show Upd (S3 I) w w3 from (hU3.ofNo.setIn (S:=S3 I) (.inl rfl) 1 (pp I.sn)).Ke X3.2);have HW0:=HH.out _ (Upd.refl No w);have hbne:¬S3 I b1:=by
  obtain ⟨b',o',cs',hA',hB',_⟩:=HW0.es.arr (by have:=HW0.es.cap;omega);rw [HA1.out] at hA';cases hA';rintro (e|e|e)
  ·exact hB'.ty.ne_ HW0.mst (by decide) e
  ·exact hB'.ty.ne_ HW0.snt.2.1 (by decide) e
  ·exact hB'.ty.ne_ HW0.snt.1 (by decide) e
 have HFR:=qq fun (W:World) (hu:Upd (S3 I) w W)=>stS_fr HW0 (hu.mono fun _ h=>h.st);clear X3 hw3 z1 y1 z2 z3 z4 y3 v1 v2 HW0
 have SQ:=qq fun (W:World) (s':StL) (hR:Je N W I s') (hu:Upd (S3 I) w W)=>(show W.cell? ⟨I.ms,1,none⟩=some (pp I.sn)∧W.cell? ⟨I.sn,1,none⟩=some (pp I.md)∧W.cell? ⟨I.ms,2,none⟩=some (.slice (some ⟨b1,o1,none⟩) I.es.n I.es.c)∧W.cell? ⟨b1,o1+k,none⟩=some (pp p2)∧W.frozen? ⟨I.md,2,none⟩=false∧Upd (S3 I) w W from
  have hw:=hR.way
  ⟨hw.1,hw.2.2.1,by have:=hR.c2;rwa [HA1.out] at this,hu.cell hc2 hbne,hw.2.2.2.2.2.2.2.2 2,hu⟩)
 have X4:=R3.out.putTm T;have Q1:=qq (SQ.out w3.drew _ (R3.out.no ((Upd.refl No w3).drew)) U3.out.drew);have Q2:=qq fun (o:Obj)=>(SQ.out (w3.drew.alloc o) _ (R3.out.no (((Upd.refl No w3).drew).alloc o)) ((U3.out.drew).alloc o));have Q3:=qq (SQ.out _ _ (X4.1.no ((Upd.refl No _).drew)) (U3.out.Ke X4.2).drew);have R4:=qq X4.1;have U4:=qq (U3.out.Ke X4.2);obtain ⟨_,_,_,_,_,_,_,⟨v3,z3⟩,_⟩:=R3.out.way;have d3:=fun (o:Obj)=>cell_alloc (o:=o) z3;have hlm3:I.md<w3.heap.size:=R3.out.snt.2.1.lt;clear X4;go_region_held3 (fun W=>W.cell? ⟨I.ms,1,none⟩=some (pp I.sn)∧W.cell? ⟨I.sn,1,none⟩=some (pp I.md)∧W.cell? ⟨I.ms,2,none⟩=some (.slice (some ⟨b1,o1,none⟩) I.es.n I.es.c)∧W.cell? ⟨b1,o1+k,none⟩=some (pp p2)∧W.frozen? ⟨I.md,2,none⟩=false∧Upd (S3 I) w W)
  (first
   |(with_reducible exact Q1.out)
   |(with_reducible assumption)
   |(exact Q2.out _)
   |(exact Q3.out))
  (first
   |(go_at_call 149;have gU:=(‹_=_∧_=_∧_=_∧_=_∧_=_∧Upd (S3 I) w _› :_∧_∧_∧_∧_∧_).2.2.2.2.2
     first
      |((with_reducible refine (ent_term ((HFR.out _ gU).blk rfl r1) (r2.fr (HFR.out _ gU) rfl)).mono ?_);rintro r w5 ⟨rfl,rfl⟩)))
 obtain ⟨w4,hw4⟩:∃W,W=((w3.setCell {block:=I.md,off:=2} (Value.pointer (some {block:=w3.heap.size,off:=0}))).alloc (Obj.cells #[Value.int IntKind.u64 T] 23)).drew:=⟨_,rfl⟩;have R4':=R4.out.no (((Upd.refl No _).drew));have U4':=U4.out.drew;rw [←hw4] at R4' U4' ⊢;clear hw4 R4 U4 Q1 Q2 Q3 SQ d3 z3 v3 hlm3;have R4:=qq R4';have U4:=qq U4';clear R4' U4';have z4:=R4.out.way.1;have z5:=R4.out.way.2.2.1;have z7:=R4.out.way.2.2.2.2.2.2.2.2 0;obtain ⟨v5,z6⟩:=R4.out.way.2.2.2.2.2.1;have Q1:=qq (show w4.drew.cell? ⟨I.ms,1,none⟩=some (pp I.sn)∧w4.drew.cell? ⟨I.sn,1,none⟩=some (pp I.md)∧w4.drew.frozen? ⟨I.md,0,none⟩=false∧(∃s',Je N w4.drew I s')∧Upd (S3 I) w w4.drew from ⟨z4,z5,z7,⟨_,R4.out.no ((Upd.refl No w4).drew)⟩,U4.out.drew⟩)
 have QU:=qq fun (W W':World) (hu:Upd No W W') (h:W.cell? ⟨I.ms,1,none⟩=some (pp I.sn)∧W.cell? ⟨I.sn,1,none⟩=some (pp I.md)∧W.frozen? ⟨I.md,0,none⟩=false∧(∃s',Je N W I s')∧Upd (S3 I) w W)=>(show W'.cell? ⟨I.ms,1,none⟩=some (pp I.sn)∧W'.cell? ⟨I.sn,1,none⟩=some (pp I.md)∧W'.frozen? ⟨I.md,0,none⟩=false∧(∃s',Je N W' I s')∧Upd (S3 I) w W' from
  have ⟨s',hR⟩:=h.2.2.2.1;have hR':=hR.no hu
  ⟨hR'.way.1,hR'.way.2.2.1,hR'.way.2.2.2.2.2.2.2.2 0,⟨s',hR'⟩,h.2.2.2.2.no hu⟩)
 have HPC:=qq fun (W:World) (hu:Upd (S3 I) w W)=>(show PbConf N W c0 c from hc.fr (HFR.out W hu));have HCC:=qq fun (W:World) (hu:Upd (S3 I) w W)=>confClone N c0 c W (HPC.out W hu) hcs;have R5:=qq fun (W:World) (hu:Upd No w4.drew W) (q:Nat) (hq:PbConf N W q c)=>(R4.out.no (((Upd.refl No w4).drew).no hu)).putCf hq
 have QS:=qq fun (W:World) (hu:Upd No w4.drew W) (q:Nat) (hq:PbConf N W q c)=>(show (W.setCell ⟨I.md,0,none⟩ (pp q)).cell? ⟨I.ms,1,none⟩=some (pp I.sn)∧(W.setCell ⟨I.md,0,none⟩ (pp q)).cell? ⟨I.sn,1,none⟩=some (pp I.md)∧(W.setCell ⟨I.md,0,none⟩ (pp q)).frozen? ⟨I.md,0,none⟩=false∧(∃s',Je N (W.setCell ⟨I.md,0,none⟩ (pp q)) I s')∧Upd (S3 I) w (W.setCell ⟨I.md,0,none⟩ (pp q)) from
  have hR':=(R5.out W hu q hq).1
  ⟨hR'.way.1,hR'.way.2.2.1,hR'.way.2.2.2.2.2.2.2.2 0,⟨_,hR'⟩,((U4.out.drew).no hu).Ke (R5.out W hu q hq).2⟩)
 go_wp2_with fail
 go_region_held3 (fun W=>W.cell? ⟨I.ms,1,none⟩=some (pp I.sn)∧W.cell? ⟨I.sn,1,none⟩=some (pp I.md)∧W.frozen? ⟨I.md,0,none⟩=false∧(∃s',Je N W I s')∧Upd (S3 I) w W)
  (first
   |(with_reducible exact Q1.out)
   |(with_reducible assumption)
   |(exact QU.out _ _ u5 ‹_›)
   |(exact QS.out _ u5 _ hq5))
  (first
   |(go_at_call 189;have gS:=(‹_=_∧_=_∧_=_∧(∃s',Je N _ I s')∧Upd (S3 I) w _› :_∧_∧_∧_∧_)
     first
      |((with_reducible refine (HCC.out _ gS.2.2.2.2).mono ?_);rintro r w5 ⟨q5,rfl,hq5,u5⟩;have z8:=Upd.cell (w:=w4.drew) u5 z6 (fun h=>h))))
 have X6:=R5.out _ u5 _ hq5;have U6:=((U4.out.drew).no u5).Ke X6.2;obtain ⟨w6,hw6⟩:∃W,W=(w5.setCell {block:=I.md,off:=0} (Value.pointer (some {block:=q5,off:=0}))):=⟨_,rfl⟩;rw [←hw6] at X6 U6 ⊢;have R6:=X6.1;clear hw6 X6 z8;have x1:=R6.way.1;have x2:=R6.way.2.2.2.2.1;obtain ⟨v6,x3⟩:=R6.way.2.2.2.1;have X7:=R6.putDt (hd.fr (HFR.out _ U6)) hds;have HSC:=qq (snapClone N I.sn I.md _ _ X7.1.sn ⟨hcs,hdl⟩);have R7:=qq X7.1;have U7:=qq (U6.Ke X7.2);clear X7 R6 U6;go_wp2_with fail
 refine HSC.out.mono ?_;rintro r w8 ⟨q8,m8,rfl,hS8,hU8,_,_⟩;go_wp2;go_ret2;exact ⟨q8,m8,rfl,hS8,R7.out.no hU8,⟨rfl,(U7.out.mono fun _ h=>h.st).no hU8,.inl rfl,.inl rfl,fun _ h=>.inl h⟩⟩
end
section
variable {N:Nat} {w w' w'':World} {J:LId} {g:LgL} {I I' I'':SId} {s s':StL}
theorem errOf0 (w:World):Calls Tryz.prog 114 #[.nilIface] w fun e w'=>e=.returned (.int .i64 0)∧w=w':=by
 go_enter Tryz.func114,Tryz.ntmps114;go_wp2;go_ret;exact ⟨rfl,rfl⟩
theorem errOf1 (w:World):Calls Tryz.prog 114 #[.iface 176 (.string errCompS)] w fun e w'=>e=.returned (.int .i64 1)∧w=w':=by
 have e1:∀w,(binOp .eql 141 (.iface 176 (.string errCompS)) (.iface 176 (.string errCompS))).run Tryz.prog w=.ok (.bool true) w:=fun w=>by kernel_rfl
 have e0:∀w,(binOp .eql 141 (.iface 176 (.string errCompS)) .nilIface).run Tryz.prog w=.ok (.bool false) w:=fun w=>by kernel_rfl
 unfold errCompS at*;go_enter Tryz.func114,Tryz.ntmps114;go_wp2;go_ret;exact ⟨rfl,rfl⟩
theorem errOf2 (w:World):Calls Tryz.prog 114 #[.iface 176 (.string errOldS)] w fun e w'=>e=.returned (.int .i64 2)∧w=w':=by
 have e2:∀w,(binOp .eql 141 (.iface 176 (.string errOldS)) (.iface 176 (.string errOldS))).run Tryz.prog w=.ok (.bool true) w:=fun w=>by kernel_rfl
 have e1:∀w,(binOp .eql 141 (.iface 176 (.string errOldS)) (.iface 176 (.string errCompS))).run Tryz.prog w=.ok (.bool false) w:=fun w=>by kernel_rfl
 have e0:∀w,(binOp .eql 141 (.iface 176 (.string errOldS)) .nilIface).run Tryz.prog w=.ok (.bool false) w:=fun w=>by kernel_rfl
 unfold errOldS errCompS at*;go_enter Tryz.func114,Tryz.ntmps114;go_wp2;go_ret;exact ⟨rfl,rfl⟩
theorem errOf3 (w:World):Calls Tryz.prog 114 #[.iface 176 (.string errUnavS)] w fun e w'=>e=.returned (.int .i64 3)∧w=w':=by
 have e3:∀w,(binOp .eql 141 (.iface 176 (.string errUnavS)) (.iface 176 (.string errUnavS))).run Tryz.prog w=.ok (.bool true) w:=fun w=>by kernel_rfl
 have e2:∀w,(binOp .eql 141 (.iface 176 (.string errUnavS)) (.iface 176 (.string errOldS))).run Tryz.prog w=.ok (.bool false) w:=fun w=>by kernel_rfl
 have e1:∀w,(binOp .eql 141 (.iface 176 (.string errUnavS)) (.iface 176 (.string errCompS))).run Tryz.prog w=.ok (.bool false) w:=fun w=>by kernel_rfl
 have e0:∀w,(binOp .eql 141 (.iface 176 (.string errUnavS)) .nilIface).run Tryz.prog w=.ok (.bool false) w:=fun w=>by kernel_rfl
 unfold errUnavS errOldS errCompS at*;go_enter Tryz.func114,Tryz.ntmps114;go_wp2;go_ret;exact ⟨rfl,rfl⟩
theorem errOf {e:Int} (he:e=0∨e=1∨e=2∨e=3) (w:World):Calls Tryz.prog 114 #[errV e] w fun r w'=>r=.returned (.int .i64 e)∧w=w':=by
 rcases he with rfl|rfl|rfl|rfl
 ·exact errOf0 w
 ·exact errOf1 w
 ·exact errOf2 w
 ·exact errOf3 w
theorem hardTo {x y z:Int} (w:World):Calls Tryz.prog 135 #[.agg #[.int .u64 x,.int .u64 y,.int .u64 z]] w fun e w'=>∃p,e=.returned (.pointer (some ⟨p,0,none⟩))∧RdHard w' (some ⟨p,0,none⟩)∧Upd No w w':=by
 go_enter Tryz.func135,Tryz.ntmps135;go_wp2;go_ret;refine ⟨_,rfl,.inr ⟨_,some ⟨w.heap.size+1,0,none⟩,some ⟨w.heap.size+1+1,0,none⟩,some ⟨w.heap.size+1+1+1,0,none⟩,x,y,z,rfl,Blk.new_ (by simp),.inr ⟨_,rfl,?_⟩,.inr ⟨_,rfl,?_⟩,.inr ⟨_,rfl,?_⟩⟩,(((((Upd.refl No w).alloc _).alloc _).alloc _).alloc _).alloc _⟩
 ·exact (((Blk.new_ (by simp)).alloc _).alloc _).alloc _
 ·exact ((Blk.new_ (by simp)).alloc _).alloc _
 ·exact (Blk.new_ (by simp)).alloc _
theorem hardFrom {hp:Option Addr} (h:RdHard w hp):Calls Tryz.prog 137 #[.pointer hp] w fun e w'=>∃x y z,e=.returned (.agg #[.int .u64 x,.int .u64 y,.int .u64 z])∧Upd No w w':=by
 rcases h with rfl|⟨p,a,b,c,x,y,z,rfl,hb,h1,h2,h3⟩
 ·go_enter Tryz.func137,Tryz.ntmps137;go_wp2_with fail
  refine (hard_term_nil _).mono ?_;rintro r w1 ⟨rfl,rfl⟩;go_wp2_with fail
  refine (hard_vote_nil _).mono ?_;rintro r w1 ⟨rfl,rfl⟩;go_wp2_with fail
  refine (hard_commit_nil _).mono ?_;rintro r w1 ⟨rfl,rfl⟩;go_wp2;refine bodyPost_ret (v:=.agg #[.int .u64 0,.int .u64 0,.int .u64 0]) (by simp [results,Tryz.results137,go_sem]) rfl ⟨0,0,0,rfl,?_⟩;exact ((Upd.refl No w).alloc _)
 ·have HB:=qq fun (o:Obj)=>hb.alloc o;have H1:=qq fun (o:Obj)=>h1.fr (((Upd.refl No w).alloc o).fr0 (N:=0)) rfl;have H2:=qq fun (o:Obj)=>h2.fr (((Upd.refl No w).alloc o).fr0 (N:=0)) rfl;have H3:=qq fun (o:Obj)=>h3.fr (((Upd.refl No w).alloc o).fr0 (N:=0)) rfl;clear hb h1 h2 h3;go_enter Tryz.func137,Tryz.ntmps137;go_wp2_with fail
  refine (hard_term (HB.out _) (H1.out _)).mono ?_;rintro r w1 ⟨rfl,rfl⟩;go_wp2_with fail
  refine (hard_vote (HB.out _) (H2.out _)).mono ?_;rintro r w1 ⟨rfl,rfl⟩;go_wp2_with fail
  refine (hard_commit (HB.out _) (H3.out _)).mono ?_;rintro r w1 ⟨rfl,rfl⟩;go_wp2;refine bodyPost_ret (v:=.agg #[.int .u64 x,.int .u64 y,.int .u64 z]) (by simp [results,Tryz.results137,go_sem]) rfl ⟨x,y,z,rfl,?_⟩;exact ((Upd.refl No w).alloc _)
theorem Je.putHard (h:Je N w I s) {hp:Option Addr} (hh:RdHard w hp):Je N (w.setCell ⟨I.ms,0,none⟩ (.pointer hp)) I s∧Upd (fun k=>k=I.ms) w (w.setCell ⟨I.ms,0,none⟩ (.pointer hp)):=by
 have hu:Upd (fun k=>k=I.ms) w (w.setCell ⟨I.ms,0,none⟩ (.pointer hp)):=(Upd.refl (fun k=>k=I.ms) w).setIn rfl 0 _;obtain ⟨hp0,k1,k2,k3,k4,k5,k6,hb,_⟩:=h.blk;exact ⟨h.stats hu ⟨hp,k1,k2,k3,k4,k5,k6,hb.set_ 0 _,hh⟩,hu⟩
theorem stHard (h:Je N w I s) {hp:Option Addr} (hh:RdHard w hp):
  Calls Tryz.prog 134 #[.pointer (some ⟨I.ms,0,none⟩),.pointer hp] w fun e w'=>e=.returned .nilIface∧Je N w' I s∧Upd (fun k=>k=I.ms) w w':=by
 obtain ⟨hp0,k1,k2,k3,k4,k5,k6,hb,_⟩:=h.blk;have c0:w.cell? ⟨I.ms,0,none⟩=some (.pointer hp0):=hb.cell 0;have y0:=hb.frozen 0;have H:=qq (h.putHard hh);clear h hb hh;go_enter Tryz.func134,Tryz.ntmps134;go_wp2;go_ret;exact ⟨rfl,H.out⟩
theorem stInitial (h:Je N w I s):
  Calls Tryz.prog 136 #[.pointer (some ⟨I.ms,0,none⟩)] w fun e w'=>∃hp cp,e=.returned (.tuple #[.pointer hp,.pointer (some ⟨cp,0,none⟩),.nilIface])∧RdHard w' hp∧PbConf N w' cp s.snap.cf∧Je N w' I s∧Upd (fun k=>k=I.ms) w w':=by
 obtain ⟨hp,k1,k2,k3,k4,k5,k6,hb,hh⟩:=h.blk;have c0:w.cell? ⟨I.ms,0,none⟩=some (.pointer hp):=hb.cell 0;have c1:=h.c1;have c3:w.cell? ⟨I.ms,3,none⟩=some (.int .i64 k1):=hb.cell 3;have y3:=hb.frozen 3;have HB:=qq fun v=>h.bump (j:=3) (by omega) (by omega) v;have HF:=qq fun v=>(HB.out v).2.fr (N:=N) (by rintro k rfl;exact hb.mutb h.N rfl);have HH:=qq hh;clear h hb hh;go_enter Tryz.func136,Tryz.ntmps136;go_wp2_with fail
 obtain ⟨w1,hw1⟩:∃W,W=w.setCell {block:=I.ms,off:=3} (Value.int IntKind.i64 (wrap64 (k1+1))):=⟨_,rfl⟩;have R1:=qq (HB.out (wrap64 (k1+1)));have F1:=qq (HF.out (wrap64 (k1+1)));rw [←hw1] at R1 F1 ⊢;clear hw1;obtain ⟨ds,cf,ix,tm,hb1,hm1,_,hc,_⟩:=id R1.out.1.sn;obtain ⟨hp',_,_,_,_,_,_,hb0,hh0⟩:=id R1.out.1.blk;have c1':=R1.out.1.c1;have c0':w1.cell? ⟨I.ms,0,none⟩=some (.pointer hp'):=hb0.cell 0;have HC:=qq hc;have HH0:=qq hh0;refine (snap_meta hb1).mono ?_;rintro r w2 ⟨rfl,rfl⟩;go_wp2_with fail
 refine (meta_conf hm1).mono ?_;rintro r w2 ⟨rfl,rfl⟩;go_wp2_with fail
 refine (ensConf HC.out).mono ?_;rintro r w2 ⟨rfl,rfl⟩;go_wp2;refine bodyPost_ret (v:=.tuple #[.pointer hp',pp cf,.nilIface]) (by simp [results,Tryz.results136,go_sem]) rfl ⟨hp',cf,rfl,HH0.out,HC.out,R1.out⟩
def StL.zero:StL:=⟨Snap.zero,0,0,[]⟩
theorem ensConf_nil (hN:N≤w.heap.size):Calls Tryz.prog 186 #[.pointer none] w fun e w'=>∃q,e=.returned (.pointer (some ⟨q,0,none⟩))∧PbConf N w' q Conf.zero∧Upd No w w':=by
 go_enter Tryz.func186,Tryz.ntmps186;go_wp2;go_ret;refine ⟨_,rfl,⟨⟨none,0,0⟩,⟨none,0,0⟩,⟨none,0,0⟩,⟨none,0,0⟩,some ⟨w.heap.size+1,0,none⟩,(Blk.new_ rfl).alloc _,Jg.nil none,Jg.nil none,Jg.nil none,Jg.nil none,.inr ⟨_,rfl,Blk.new_ (by simp)⟩,⟨_,rfl⟩,fun _=>rfl,fun _=>rfl,fun _=>rfl,fun _=>rfl⟩,((Upd.refl No w).alloc _).alloc _⟩
theorem ensMeta_nil (hN:N≤w.heap.size):Calls Tryz.prog 122 #[.pointer none] w fun e w'=>∃q,e=.returned (.pointer (some ⟨q,0,none⟩))∧PbMeta N w' q 0 0 Conf.zero∧Upd No w w'∧w.heap.size≤q:=by
 have HC:=qq fun (o:Obj)=>ensConf_nil (N:=N) (w:=w.alloc o) (Nat.le_trans hN ((Upd.refl No w).alloc o).size);go_enter Tryz.func122,Tryz.ntmps122;go_wp2_with fail
 refine (HC.out _).mono ?_;rintro r w1 ⟨q,rfl,hq,hu⟩;have hB:=(Blk.new w 235 #[.pointer none,.pointer none,.pointer none]).upd hu (fun h=>h);have z0:=hB.cell 0;have z1:=hB.cell 1;have z2:=hB.cell 2;have y:=hB.frozen;have hb:=hB.lt;simp at z0 z1 z2;have HU:=qq hu;have HQ:=qq hq;have HB:=qq hB;clear hu hq hB;go_wp2;go_ret;have hB:=HB.out;have hu1:Upd (fun k=>k=w.heap.size) w1 (((((w1.setCell ⟨w.heap.size,0,none⟩ (pp q)).setCell ⟨w.heap.size,1,none⟩ (pp w1.heap.size)).setCell ⟨w.heap.size,2,none⟩ (pp (w1.heap.size+1))).alloc (.cells #[.int .u64 0] 23)).alloc (.cells #[.int .u64 0] 23)):=
  (((((Upd.refl (fun k=>k=w.heap.size) w1).setIn rfl 0 _).setIn rfl 1 _).setIn rfl 2 _).alloc _).alloc _
 refine ⟨_,rfl,⟨q,w1.heap.size,w1.heap.size+1,((((hB.set_ 0 _).set_ 1 _).set_ 2 _).alloc _).alloc _,HQ.out.fr (hu1.fr (by rintro k rfl;exact hB.mutb hN rfl)),(Blk.new_ (by simp)).alloc _,Blk.new_ (by simp)⟩,?_,Nat.le_refl _⟩;exact (((Upd.refl No w).alloc _).no HU.out).trans hu1 (by rintro k rfl;exact .inr (Nat.le_refl _))
theorem ensSnap_nil (hN:N≤w.heap.size):Calls Tryz.prog 69 #[.pointer none] w fun e w'=>∃q m,e=.returned (.pointer (some ⟨q,0,none⟩))∧Kf N w' q m Snap.zero∧Upd No w w'∧w.heap.size≤q∧w.heap.size≤m:=by
 have HC:=qq fun (o:Obj)=>ensMeta_nil (N:=N) (w:=w.alloc o) (Nat.le_trans hN ((Upd.refl No w).alloc o).size);go_enter Tryz.func69,Tryz.ntmps69;go_wp2_with fail
 refine (HC.out _).mono ?_;rintro r w1 ⟨q,rfl,hq,hu,hqw⟩;have hB:=(Blk.new w 189 #[.slice none 0 0,.pointer none]).upd hu (fun h=>h);have z0:=hB.cell 0;have z1:=hB.cell 1;have y:=hB.frozen;have hb:=hB.lt;simp at z0 z1;have HU:=qq hu;have HQ:=qq hq;have HB:=qq hB;have HQW:=qq hqw;clear hu hq hB hqw;go_wp2;go_ret;have hB:=HB.out;have hqw:=HQW.out;simp at hqw;have hu1:Upd (fun k=>k=w.heap.size) w1 (w1.setCell ⟨w.heap.size,1,none⟩ (pp q)):=(Upd.refl (fun k=>k=w.heap.size) w1).setIn rfl 1 _;have hf:Fr N w1 (w1.setCell ⟨w.heap.size,1,none⟩ (pp q)):=hu1.fr (by rintro k rfl;exact hB.mutb hN rfl);obtain ⟨cf,ix,tm,hm,hc,hi,ht⟩:=HQ.out;refine ⟨_,q,rfl,⟨⟨none,0,0⟩,cf,ix,tm,hB.set_ 1 _,hm.far (by simp only;omega) _,⟨Jg.nil none,fun _=>rfl⟩,hc.fr hf,hf.blk rfl hi,hf.blk rfl ht,hN,by omega,fun _=>rfl⟩,?_,Nat.le_refl _,by omega⟩;exact (((Upd.refl No w).alloc _).no HU.out).trans hu1 (by rintro k rfl;exact .inr (Nat.le_refl _))
theorem newStore (hN:N≤w.heap.size):Calls Tryz.prog 36 #[] w fun e w'=>∃I,e=.returned (.pointer (some ⟨I.ms,0,none⟩))∧Je N w' I StL.zero∧Upd No w w'∧w.heap.size≤I.ms:=by
 have HC:=qq fun (W:World) (hu:Upd No w W)=>ensSnap_nil (N:=N) (w:=W) (Nat.le_trans hN hu.size);go_enter Tryz.func36,Tryz.ntmps36;go_wp2_with fail
 obtain ⟨w0,hw0⟩:∃W,W=(((w.alloc (Obj.cells #[Value.pointer none,Value.pointer none,Value.pointer none,Value.slice none 0 0] 127)).alloc (Obj.cells #[Value.pointer (some {block:=w.heap.size,off:=0})] 122)).alloc (Obj.cells #[Value.pointer none,Value.pointer none,Value.slice (some {block:=w.heap.size+1,off:=0}) 1 1,Value.int IntKind.i64 0,Value.int IntKind.i64 0,Value.int IntKind.i64 0,Value.int IntKind.i64 0,Value.int IntKind.i64 0,Value.int IntKind.i64 0] 134)):=⟨_,rfl⟩;have U0:=qq (show Upd No w w0 by rw [hw0];exact (((Upd.refl No w).alloc _).alloc _).alloc _);have B0:=qq (show Blk w0 w.heap.size 127 #[.pointer none,.pointer none,.pointer none,.slice none 0 0] by rw [hw0];exact ((Blk.new_ rfl).alloc _).alloc _);have B1:=qq (show Blk w0 (w.heap.size+1) 122 #[pp w.heap.size] by rw [hw0];exact (Blk.new_ (by simp)).alloc _);have B2:=qq (show Blk w0 (w.heap.size+1+1) 134 #[.pointer none,.pointer none,.slice (some ⟨w.heap.size+1,0,none⟩) 1 1,.int .i64 0,.int .i64 0,.int .i64 0,.int .i64 0,.int .i64 0,.int .i64 0] by rw [hw0];exact Blk.new_ (by simp));have hs0:w0.heap.size=w.heap.size+1+1+1:=by rw [hw0];simp
 rw [←hw0];clear hw0;have HS0:=qq hs0;clear hs0;refine (HC.out _ U0.out).mono ?_;rintro r w1 ⟨q,m,rfl,hq,hu,h1,h2⟩;have hB:=B2.out.upd hu (fun h=>h);have z1:=hB.cell 1;have y1:=hB.frozen 1;simp at z1;have HU:=qq hu;have HQ:=qq hq;have HB:=qq hB;have HL:=qq (And.intro h1 h2);clear hu hq hB h1 h2;go_wp2;go_ret;have hB:=HB.out;have hl:=HL.out;have hs0:=HS0.out;have hu1:Upd (fun k=>k=w.heap.size+1+1) w1 (w1.setCell ⟨w.heap.size+1+1,1,none⟩ (pp q)):=(Upd.refl (fun k=>k=w.heap.size+1+1) w1).setIn rfl 1 _;have hf:Fr N w1 (w1.setCell ⟨w.heap.size+1+1,1,none⟩ (pp q)):=hu1.fr (by rintro k rfl;exact hB.mutb (by omega) rfl);obtain ⟨_,_,_,_,hb1,hm1,_⟩:=id HQ.out;refine ⟨⟨w.heap.size+1+1,q,m,⟨some ⟨w.heap.size+1,0,none⟩,1,1⟩⟩,rfl,⟨⟨none,0,0,0,0,0,0,hB.set_ 1 _,.inl rfl⟩,HQ.out.upd hu1 hf (fun hk=>hb1.ne_ hB (by decide) hk) (fun hk=>hm1.ne_ hB (by decide) hk),?_,by simp only;omega⟩,(U0.out.no HU.out).trans hu1 (by rintro k rfl;exact .inr (by omega)),by simp only;omega⟩;refine ⟨rfl,Nat.le_refl _,fun _=>⟨w.heap.size+1,0,_,rfl,(B1.out.upd HU.out (fun h=>h)).upd hu1 (fun (h:w.heap.size+1=w.heap.size+1+1)=>by omega),by simp,by omega,fun j hj=>?_⟩⟩;have:j=0:=by simp only at hj;omega
 subst this;exact ⟨w.heap.size,rfl,none,none,none,⟨none,0,0⟩,(B0.out.upd HU.out (fun h=>h)).upd hu1 (fun (h:w.heap.size=w.heap.size+1+1)=>by omega),.inl ⟨rfl,rfl⟩,.inl ⟨rfl,rfl⟩,.inl ⟨rfl,rfl⟩,⟨Jg.nil none,fun _=>rfl⟩,fun h=>absurd h (by omega)⟩
def LgL.fresh (s:StL) (size:Int):LgL:={s:=s,u:={snap:=Snap.zero,has:=false,es:=[],off:=s.last+1,going:=false,till:=s.last+1},com:=s.atI,apg:=s.atI,apd:=s.atI,size:=size,usg:=0,paused:=false}
theorem newLog (h:Je N w I s) (ho:s.Ok) {size:Int}:
  Calls Tryz.prog 139 #[.iface 86 (.pointer (some ⟨I.ms,0,none⟩)),.int .u64 size] w fun e w'=>∃J,e=.returned (.pointer (some ⟨J.l,0,none⟩))∧Jf N w' J (LgL.fresh s size)∧J.I=I∧Upd (fun k=>k=I.ms) w w':=by
 have f1:∀a w,(method 385 86 (.pointer (some a)) "FirstIndex").run Tryz.prog w=.ok (131,.pointer (some a)) w:=fun a w=>by kernel_rfl
 have f2:∀a w,(method 385 86 (.pointer (some a)) "LastIndex").run Tryz.prog w=.ok (132,.pointer (some a)) w:=fun a w=>by kernel_rfl
 have HF:=qq (show Calls Tryz.prog 131 #[pp I.ms] w fun e w'=>e=.returned (.tuple #[.int .u64 (s.atI+1),.nilIface])∧Je N w' I s∧Upd (fun k=>k=I.ms) w w' from stFirst h ho);have HL:=qq fun (w:World) (h:Je N w I s)=>stLast h ho;have hl0:=ho.last;have i0:=ho.i0;have i1:=ho.atI_lt;have hl1:s.atI≤s.last:=by unfold StL.last;omega
 have HN:=qq (Nat.le_of_lt (Nat.lt_of_le_of_lt h.N h.mst.lt));clear h ho;obtain ⟨L,hL⟩:∃L,L=s.last:=⟨_,rfl⟩;have HLL:=qq hL;rw [←hL] at HL hl0 hl1;clear hL;go_enter Tryz.func139,Tryz.ntmps139;go_wp2_with fail
 refine HF.out.mono ?_;rintro r w1 ⟨rfl,R1,U1⟩;have R1:=qq R1;have U1:=qq U1;go_wp2_with fail
 refine (HL.out _ R1.out).mono ?_;rintro r w2 ⟨rfl,R2,U2⟩;have R2:=qq R2;have U2:=qq (U1.out.Ke U2);go_wp2;go_ret;refine ⟨⟨I,w2.heap.size,none,0,⟨none,0,0⟩⟩,rfl,?_,rfl,U2.out.alloc _⟩;refine ⟨?_,R2.out.no ((Upd.refl No w2).alloc _),PArr.nil _ _ _,.inl ⟨rfl,rfl⟩,Nat.le_trans HN.out U2.out.size,fun _ _ _ _ _ h=>by cases h⟩;have:=Blk.new w2 214 (logCells I.ms none ⟨none,0,0⟩ (LgL.fresh s size));unfold LgL.fresh logCells at this ⊢;rw [←HLL.out] at this ⊢;exact this
end
structure Jd where
 kind:Int
 a:Int
 b:Int
 c:Int
 es:SlV
 sn:SnV
 x:Int
 y:Int
 z:Int
def Jd.cells (v:Jd):Array Value:=#[.int .i64 v.kind,.int .u64 v.a,.int .u64 v.b,.int .u64 v.c,.slice v.es.A v.es.n v.es.c,
 .string v.sn.data,.int .u64 v.sn.index,.int .u64 v.sn.term,.slice v.sn.cf.vo.A v.sn.cf.vo.n v.sn.cf.vo.c,.slice v.sn.cf.le.A v.sn.cf.le.n v.sn.cf.le.c,.slice v.sn.cf.ou.A v.sn.cf.ou.n v.sn.cf.ou.c,.slice v.sn.cf.ne.A v.sn.cf.ne.n v.sn.cf.ne.c,.bool v.sn.cf.auto,
 .int .u64 v.x,.int .u64 v.y,.int .u64 v.z]
structure Ent.u (e:Ent):Prop where
 t0:0≤e.term
 t1:e.term<18446744073709551616
 i0:0≤e.index
 i1:e.index<18446744073709551616
 k0:0≤e.kind
 k2:e.kind≤2
 d:e.data.size≤200
def AllU (l:List Ent):Prop:=∀j,j<l.length→(l.getD j default).u
theorem AllU.ok {l:List Ent} (h:AllU l) (hr:rowB l=true):AllOk l:=fun j hj=>by
 have h1:=h j hj;have h2:=row_at hr j hj;exact ⟨h1.t0,h2.2.2.2,h1.i0,h2.2.2.1,h1.k0,h1.k2,h1.d⟩
structure SCall.Ok (c:SCall):Prop where
 a0:0≤c.a
 a1:c.a<18446744073709551616
 b0:0≤c.b
 b1:c.b<18446744073709551616
 c0:0≤c.c
 c1:c.c<18446744073709551616
 es:AllU c.es
 len:c.es.length≤60
 i0:0≤c.snap.index
 i1:c.snap.index<18446744073709551616
 t0:0≤c.snap.term
 t1:c.snap.term<18446744073709551616
 sm:c.snap.small
structure Jd.Rd (N:Nat) (w:World) (v:Jd) (c:SCall):Prop where
 kind:v.kind=c.kind
 a:v.a=c.a
 b:v.b=c.b
 cc:v.c=c.c
 es:Jh N w v.es c.es
 sn:v.sn.Rd N w c.snap
theorem Jd.Rd.fr {N:Nat} {w w':World} {v:Jd} {c:SCall} (h:v.Rd N w c) (hf:Fr N w w'):v.Rd N w' c:=⟨h.kind,h.a,h.b,h.cc,h.es.fr hf,h.sn.fr hf⟩
structure Jb where
 err:Int
 n:Int
 es:SlV
 sn:SnV
 x:Int
 y:Int
 z:Int
 has:Bool
 cf:CfV
def CfV.nil:CfV:=⟨⟨none,0,0⟩,⟨none,0,0⟩,⟨none,0,0⟩,⟨none,0,0⟩,false⟩
def SnV.nil:SnV:=⟨⟨#[]⟩,0,0,CfV.nil⟩
theorem CfV.Js (N:Nat) (w:World):CfV.nil.Rd N w Conf.zero:=⟨Jg.nil none,Jg.nil none,Jg.nil none,Jg.nil none,rfl,Nat.zero_le _,Nat.zero_le _,Nat.zero_le _,Nat.zero_le _⟩
theorem SnV.Js (N:Nat) (w:World):SnV.nil.Rd N w Snap.zero:=⟨rfl,rfl,rfl,CfV.Js N w,Nat.zero_le _⟩
def Jb.nil:Jb:=⟨0,0,⟨none,0,0⟩,SnV.nil,0,0,0,false,CfV.nil⟩
def Jb.cells (v:Jb):Array Value:=#[.int .i64 v.err,.int .u64 v.n,.slice v.es.A v.es.n v.es.c,
 .string v.sn.data,.int .u64 v.sn.index,.int .u64 v.sn.term,.slice v.sn.cf.vo.A v.sn.cf.vo.n v.sn.cf.vo.c,.slice v.sn.cf.le.A v.sn.cf.le.n v.sn.cf.le.c,.slice v.sn.cf.ou.A v.sn.cf.ou.n v.sn.cf.ou.c,.slice v.sn.cf.ne.A v.sn.cf.ne.n v.sn.cf.ne.c,.bool v.sn.cf.auto,
 .int .u64 v.x,.int .u64 v.y,.int .u64 v.z,.bool v.has,
 .slice v.cf.vo.A v.cf.vo.n v.cf.vo.c,.slice v.cf.le.A v.cf.le.n v.cf.le.c,.slice v.cf.ou.A v.cf.ou.n v.cf.ou.c,.slice v.cf.ne.A v.cf.ne.n v.cf.ne.c,.bool v.cf.auto,.bool false]
structure Jb.Rd (N:Nat) (w:World) (v:Jb) (A:SAns):Prop where
 err:v.err=A.err
 n:v.n=A.n
 es:Jh N w v.es A.es
 sn:v.sn.Rd N w A.snap
theorem Jb.Rd.fr {N:Nat} {w w':World} {v:Jb} {A:SAns} (h:v.Rd N w A) (hf:Fr N w w'):v.Rd N w' A:=⟨h.err,h.n,h.es.fr hf,h.sn.fr hf⟩
theorem Jb.one (v:Jb):v.cells.all (·.oneCell')=true:=by simp [Jb.cells,Value.oneCell']
theorem Jb.size (v:Jb):v.cells.size=21:=rfl
def SAns.lim (A:SAns) (c:SCall):SAns:=if c.kind=5 then {A with es:=A.es.take (Go.Proofs.YtmagnkjodjmojaaGreat.lim A.es c.c)} else A
theorem inf69:(Tryz.prog.info? 69).map (·.size)=some 21:=by kernel_rfl
theorem Jb.inf (v:Jb):(Tryz.prog.info? 69).map (·.size)=some v.cells.size:=inf69
theorem LU.blk {N:Nat} {w w':World} {b:Nat} {T:TypeId} {cs:Array Value} (h:Upd (LU N w) w w') (hb:Blk w b T cs) (hT:logT T=false):Blk w' b T cs:=
 hb.upd h fun ⟨_,T',h2,h3⟩=>by
  by_cases e:T=T'
  ·subst e;rw [hT] at h3;cases h3
  ·exact hb.ty.ne_ h2 e rfl
def stoW (v:Jd) (w:World):World:=((w.alloc (.cells v.cells 43)).alloc (.cells Jb.nil.cells 69)).alloc (.cells Jb.nil.cells 69)
theorem stoW_eq (v:Jd) (w:World):(((w.alloc (Obj.cells #[.int .i64 v.kind,.int .u64 v.a,.int .u64 v.b,.int .u64 v.c,.slice v.es.A v.es.n v.es.c,
 .string v.sn.data,.int .u64 v.sn.index,.int .u64 v.sn.term,.slice v.sn.cf.vo.A v.sn.cf.vo.n v.sn.cf.vo.c,.slice v.sn.cf.le.A v.sn.cf.le.n v.sn.cf.le.c,.slice v.sn.cf.ou.A v.sn.cf.ou.n v.sn.cf.ou.c,.slice v.sn.cf.ne.A v.sn.cf.ne.n v.sn.cf.ne.c,.bool v.sn.cf.auto,
 .int .u64 v.x,.int .u64 v.y,.int .u64 v.z] 43)).alloc (Obj.cells (Z69 0 0) 69)).alloc
  (Obj.cells (Z69 0 0) 69))=stoW v w:=rfl
structure StoB (v:Jd) (b:Nat) (w:World) (V:Jb):Prop where
 b0:Blk w b 43 v.cells
 b1:Blk w (b+1) 69 Jb.nil.cells
 b2:Blk w (b+1+1) 69 V.cells
theorem Jq (v:Jd) (w:World):StoB v w.heap.size (stoW v w) Jb.nil∧Upd No w (stoW v w):=
 ⟨⟨((Blk.new_ rfl).alloc _).alloc _,(Blk.new_ (by simp)).alloc _,Blk.new_ (by simp)⟩,(((Upd.refl No w).alloc _).alloc _).alloc _⟩
section
variable {N:Nat} {w w' w'':World} {I I' I'':SId} {s s':StL} {v:Jd} {c:SCall} {A:SAns} {b:Nat} {V:Jb}
theorem StoB.lu (h:StoB v b w V) (hu:Upd (LU N w) w w'):StoB v b w' V:=⟨LU.blk hu h.b0 rfl,LU.blk hu h.b1 rfl,LU.blk hu h.b2 rfl⟩
theorem StoB.set (h:StoB v b w V) (j:Nat) (x:Value) (V':Jb) (hV:V.cells.setIfInBounds j x=V'.cells):StoB v b (w.setCell ⟨b+1+1,j,none⟩ x) V':=
 ⟨h.b0.far (by simp only;omega) x,h.b1.far (by simp only;omega) x,hV ▸h.b2.set_ j x⟩
theorem StoB.upd (h:StoB v b w V) (hN:N≤b) (x:Value) (j:Nat):Upd (fun k=>k=b+1+1) w (w.setCell ⟨b+1+1,j,none⟩ x)∧Fr N w (w.setCell ⟨b+1+1,j,none⟩ x):=by
 have hu:Upd (fun k=>k=b+1+1) w (w.setCell ⟨b+1+1,j,none⟩ x):=(Upd.refl (fun k=>k=b+1+1) w).setIn rfl j x;exact ⟨hu,hu.fr (by rintro k rfl;exact h.b2.mutb (by omega) rfl)⟩
theorem Je.updT {S:Nat→Prop} (h:Je N w I s) (hu:Upd S w w') (hf:Fr N w w') (hS:∀k T,S k→Ty w k T→logT T=true→False):Je N w' I s:=
 h.upd hu hf (fun hk=>hS _ _ hk h.mst rfl) (fun hk=>hS _ _ hk h.snt.1 rfl) (fun hk=>hS _ _ hk h.snt.2.1 rfl) (fun b o hA hk=>by
  obtain ⟨b',o',cs',hA',hB',_⟩:=h.es.arr (by have:=h.es.cap;have:=h.n;omega);rw [hA] at hA';cases hA'
  exact hS _ _ hk hB'.ty rfl)
theorem StoB.st (h:StoB v b w V) (hR:Je N w I s) (hN:N≤b) (x:Value) (j:Nat):Je N (w.setCell ⟨b+1+1,j,none⟩ x) I s:=
 hR.updT (h.upd hN x j).1 (h.upd hN x j).2 (by
  rintro k T rfl ht hl;by_cases e:T=69
  ·subst e;cases hl
  ·exact ht.ne_ h.b2.ty e rfl)
theorem Je.step_lu (h:Je N w I s) (hu:Jr w w' I I'):Upd (LU N w) w w':=hu.lu h
theorem Jb.ret {fn:Func} {R:Ending→World→Prop} {a:Act} {w:World} {p:Tmp} (V:Jb) (hr:fn.results= #[.cell p 69]) (g:Nat) (hp:a.tmps.getD p undef=.pointer (some ⟨g,0,none⟩)) (hg:Blk w g 69 V.cells) (hdf:a.defers=[]) (hR:R (.returned (.agg V.cells)) w):
  bodyPost Tryz.prog fn R .ret a w:=ret_blk hr g 69 V.cells _ hp hg Tryz.underlying69 rfl V.inf hdf hR
theorem StoB.fin {w2 w4:World} {V2:Jb} {A2:SAns} (hB:StoB v b w2 V2) (hN:N≤b) (hb:w.heap.size≤b) (hV:V2.Rd N w2 A2) (hR:Je N w2 I' s') (hS:Jr w w2 I I') {e:Int}
  (hu4:Upd (fun k=>k=b+1) (w2.setCell ⟨b+1+1,0,none⟩ (.int .i64 e)) w4):({V2 with err:=e}:Jb).Rd N w4 {A2 with err:=e}∧∃I',Je N w4 I' s'∧Jr w w4 I I':=by
 have h1:=hB.upd hN (.int .i64 e) 0;have h2:=hB.st hR hN (.int .i64 e) 0;have hb1:Blk (w2.setCell ⟨b+1+1,0,none⟩ (.int .i64 e)) (b+1) 69 Jb.nil.cells:=hB.b1.far (by simp only;omega) _;have hf4:Fr N (w2.setCell ⟨b+1+1,0,none⟩ (.int .i64 e)) w4:=hu4.fr (by rintro k rfl;exact hb1.mutb (by omega) rfl)
 have h3:=h2.updT hu4 hf4 (by
  rintro k T rfl ht hl;by_cases e:T=69
  ·subst e;cases hl
  ·exact ht.ne_ hb1.ty e rfl)
 refine ⟨⟨rfl,hV.n,(hV.es.fr h1.2).fr hf4,(hV.sn.fr h1.2).fr hf4⟩,I',h3,⟨hS.ms,?_,hS.sn,hS.md,hS.es⟩⟩;exact (hS.upd.setCell (.inr (by simp only;omega)) _).trans hu4 (by rintro k rfl;exact .inr (by omega))
end
end Go.Proofs.YtmagnkjodjmojaaGreat
