/- A part of the proof of FnLog: laws and walks, with their conditions written at each. -/
import Derived.Test.YtmagnkjodjmojaaGreatQ14
set_option maxRecDepth 20000
set_option maxHeartbeats 4000000
set_option linter.all false
namespace Go.Proofs.YtmagnkjodjmojaaGreat
open Go.RowKit
section
variable {N:Nat} {w w' w'':World} {I I' I'':SId} {s s':StL} {v:Jd} {c:SCall} {A:SAns}
theorem StoB.many {b:Nat} {w1 w2:World} {V1 V2:Jb} (h1:StoB v b w1 V1) (h2:StoB v b w2 V2) (hu:Upd (fun k=>k=b+1+1) w1 w2) (hN:N≤b) (hb:w.heap.size≤b) (hR:Je N w1 I' s') (hS:Jr w w1 I I'):
  Je N w2 I' s'∧Jr w w2 I I'∧Fr N w1 w2:=by
 have hf:Fr N w1 w2:=hu.fr (by rintro k rfl;exact h1.b2.mutb (by omega) rfl)
 refine ⟨hR.updT hu hf (by
  rintro k T rfl ht hl;by_cases e:T=69
  ·subst e;cases hl
  ·exact ht.ne_ h1.b2.ty e rfl),⟨hS.ms,hS.upd.trans hu (by rintro k rfl;exact .inr (by omega)),hS.sn,hS.md,hS.es⟩,hf⟩
theorem sto_9 (h:Je N w I s) (ho:s.Ok) (hv:v.Rd N w c) (hc:c.Ok) (hk:v.kind=9):
  Calls Tryz.prog 71 #[.pointer (some ⟨I.ms,0,none⟩),.agg v.cells] w fun e w'=>∃V:Jb,e=.returned (.agg V.cells)∧V.Rd N w' {SAns.none with snap:=s.snap}∧∃I',Je N w' I' s∧Jr w w' I I':=by
 have HF:=qq fun (w:World) (h:Je N w I s)=>stSnap h ho;have HG:=qq fun (w:World) {q m:Nat} (hN:N≤w.heap.size) (h:Kf N w q m s.snap)=>snapFrom N q m s.snap w hN h ho.small;have hB:=(Jq v w).1;have hR0:=qq (h.no (Jq v w).2);have hb:=Nat.le_trans h.N (Nat.le_of_lt h.mst.lt);have hE:=stoW_eq v w;have h0:=qq (Jq v w).2;have hv0:=qq (hv.fr (Jq v w).2.fr0);have HC:=qq hc;have HO:=qq ho;rw [hk] at hE;obtain ⟨W,hW⟩:∃W,W=stoW v w:=⟨_,rfl⟩;rw [←hW] at hB hR0 hE h0 hv0;have HB:=qq hB;have HE:=qq hE;have hNW:=qq (Nat.le_trans hb h0.out.size);clear h ho hB hE hW hv hc;unfold Jd.cells;rw [hk];go_enter Tryz.func71,Tryz.ntmps71;go_wp2_with fail
 rw [HE.out];refine (HF.out _ hR0.out).mono ?_;rintro r w1 ⟨q,m,rfl,hP,R1,U1⟩;have hB1:=HB.out.lu (N:=N) (U1.mono (by rintro k rfl;exact ⟨hR0.out.N,_,hR0.out.mst,rfl⟩));have HB1:=qq hB1;have HR1:=qq R1;have HS1:=qq ((Jr.no h0.out).trans (Jr.of U1));have HF1:=qq ((Jr.of U1:Jr W w1 I I).fr hR0.out);clear R1 U1;have HP:=qq hP;clear hP;go_wp2_with fail
 refine (HG.out _ (Nat.le_trans hb HS1.out.upd.size) HP.out).mono ?_;rintro r w1b ⟨u,rfl,hu,U1b⟩;have HB1:=qq (HB1.out.lu (N:=N) U1b.ofNo);have HR1:=qq (HR1.out.no U1b);have HS1:=qq (HS1.out.trans (Jr.no U1b));have HU:=qq hu;clear hu U1b hB1;have z3:w1b.cell? ⟨w.heap.size+1+1,3,none⟩=some (.string ⟨#[]⟩):=HB1.out.b2.cell 3;have y3:=HB1.out.b2.frozen 3;have z4:w1b.cell? ⟨w.heap.size+1+1,4,none⟩=some (.int .u64 0):=HB1.out.b2.cell 4;have y4:=HB1.out.b2.frozen 4;have z5:w1b.cell? ⟨w.heap.size+1+1,5,none⟩=some (.int .u64 0):=HB1.out.b2.cell 5;have y5:=HB1.out.b2.frozen 5;have z6:w1b.cell? ⟨w.heap.size+1+1,6,none⟩=some (.slice none 0 0):=HB1.out.b2.cell 6;have y6:=HB1.out.b2.frozen 6;have z7:w1b.cell? ⟨w.heap.size+1+1,7,none⟩=some (.slice none 0 0):=HB1.out.b2.cell 7;have y7:=HB1.out.b2.frozen 7;have z8:w1b.cell? ⟨w.heap.size+1+1,8,none⟩=some (.slice none 0 0):=HB1.out.b2.cell 8;have y8:=HB1.out.b2.frozen 8;have z9:w1b.cell? ⟨w.heap.size+1+1,9,none⟩=some (.slice none 0 0):=HB1.out.b2.cell 9;have y9:=HB1.out.b2.frozen 9;have z10:w1b.cell? ⟨w.heap.size+1+1,10,none⟩=some (.bool false):=HB1.out.b2.cell 10;have y10:=HB1.out.b2.frozen 10;go_wp2_with fail
 obtain ⟨w2,hw2⟩:∃W,W=((((((((w1b.setCell ⟨w.heap.size+1+1,3,none⟩ (.string u.data)).setCell ⟨w.heap.size+1+1,4,none⟩ (.int .u64 u.index)).setCell ⟨w.heap.size+1+1,5,none⟩ (.int .u64 u.term)).setCell ⟨w.heap.size+1+1,6,none⟩ u.cf.vo.v).setCell ⟨w.heap.size+1+1,7,none⟩ u.cf.le.v).setCell ⟨w.heap.size+1+1,8,none⟩ u.cf.ou.v).setCell ⟨w.heap.size+1+1,9,none⟩ u.cf.ne.v).setCell ⟨w.heap.size+1+1,10,none⟩ (.bool u.cf.auto)):=⟨_,rfl⟩;rw [←hw2]
 have HB2:=qq (show StoB v w.heap.size w2 {Jb.nil with sn:=u} by rw [hw2];exact ((((((((HB1.out.set 3 (.string u.data) {Jb.nil with sn:=⟨u.data,SnV.nil.index,SnV.nil.term,⟨SnV.nil.cf.vo,SnV.nil.cf.le,SnV.nil.cf.ou,SnV.nil.cf.ne,SnV.nil.cf.auto⟩⟩} rfl).set 4 (.int .u64 u.index) {Jb.nil with sn:=⟨u.data,u.index,SnV.nil.term,⟨SnV.nil.cf.vo,SnV.nil.cf.le,SnV.nil.cf.ou,SnV.nil.cf.ne,SnV.nil.cf.auto⟩⟩} rfl).set 5 (.int .u64 u.term) {Jb.nil with sn:=⟨u.data,u.index,u.term,⟨SnV.nil.cf.vo,SnV.nil.cf.le,SnV.nil.cf.ou,SnV.nil.cf.ne,SnV.nil.cf.auto⟩⟩} rfl).set 6 u.cf.vo.v {Jb.nil with sn:=⟨u.data,u.index,u.term,⟨u.cf.vo,SnV.nil.cf.le,SnV.nil.cf.ou,SnV.nil.cf.ne,SnV.nil.cf.auto⟩⟩} rfl).set 7 u.cf.le.v {Jb.nil with sn:=⟨u.data,u.index,u.term,⟨u.cf.vo,u.cf.le,SnV.nil.cf.ou,SnV.nil.cf.ne,SnV.nil.cf.auto⟩⟩} rfl).set 8 u.cf.ou.v {Jb.nil with sn:=⟨u.data,u.index,u.term,⟨u.cf.vo,u.cf.le,u.cf.ou,SnV.nil.cf.ne,SnV.nil.cf.auto⟩⟩} rfl).set 9 u.cf.ne.v {Jb.nil with sn:=⟨u.data,u.index,u.term,⟨u.cf.vo,u.cf.le,u.cf.ou,u.cf.ne,SnV.nil.cf.auto⟩⟩} rfl).set 10 (.bool u.cf.auto) {Jb.nil with sn:=⟨u.data,u.index,u.term,⟨u.cf.vo,u.cf.le,u.cf.ou,u.cf.ne,u.cf.auto⟩⟩} rfl));have X2:=HB1.out.many HB2.out (by rw [hw2];exact (((((((((Upd.refl (fun k=>k=w.heap.size+1+1) w1b).setIn rfl 3 _).setIn rfl 4 _).setIn rfl 5 _).setIn rfl 6 _).setIn rfl 7 _).setIn rfl 8 _).setIn rfl 9 _).setIn rfl 10 _)) hb (Nat.le_refl _) HR1.out HS1.out;have HR2:=qq X2.1;have HS2:=qq X2.2.1;have HF2:=qq X2.2.2
 clear X2 hw2 z3 y3 z4 y4 z5 y5 z6 y6 z7 y7 z8 y8 z9 y9 z10 y10;have HV2:=qq (show ({Jb.nil with sn:=u}:Jb).Rd N w2 {SAns.none with snap:=s.snap} from ⟨rfl,rfl,Jg.nil none,HU.out.fr HF2.out⟩);refine (errOf0 w2).mono ?_;rintro r w3 ⟨rfl,rfl⟩;have z0:w2.cell? ⟨w.heap.size+1+1,0,none⟩=some (.int .i64 0):=HB2.out.b2.cell 0;have y0:=HB2.out.b2.frozen 0;obtain ⟨w3,hw3⟩:∃W,W=w2.setCell {block:=w.heap.size+1+1,off:=0} (Value.int IntKind.i64 (0)):=⟨_,rfl⟩;have HB3:=qq (show StoB v w.heap.size w3 { {Jb.nil with sn:=u} with err:=0} by rw [hw3];exact HB2.out.set 0 _ _ rfl);have HS:=qq (Jb.inf { {Jb.nil with sn:=u} with err:=0});have HONE:=qq (Jb.one { {Jb.nil with sn:=u} with err:=0});have HW3:=qq hw3;clear hw3
 go_wp2_with (first
  |(with_reducible refine Jm rfl 69 (.tmp 5) rfl (w.heap.size+1+1) { {Jb.nil with sn:=u} with err:=0}.cells rfl 69 _ (HW3.out ▸HB3.out.b2) Tryz.underlying69 rfl HS.out ?_)
  |(with_reducible refine Jk rfl 69 (.tmp 4) (.tmp 133) rfl (w.heap.size+1) { {Jb.nil with sn:=u} with err:=0}.cells rfl rfl 69 Jb.nil.cells (HW3.out ▸HB3.out.b1) HS.out rfl HONE.out ?_))
 intro w4 hb4 hu4;go_wp2;refine Jb.ret { {Jb.nil with sn:=u} with err:=0} rfl (w.heap.size+1) rfl hb4 rfl ?_;have X:=HB2.out.fin hb (Nat.le_refl _) HV2.out HR2.out HS2.out hu4;exact ⟨_,rfl,X.1,X.2⟩
theorem sto_3 (h:Je N w I s) (ho:s.Ok) (hv:v.Rd N w c) (hc:c.Ok) (hk:v.kind=3) (h1:s.snap.index<v.a) (h2:s.atI≤v.a) (h3:v.a≤s.last):
  Calls Tryz.prog 71 #[.pointer (some ⟨I.ms,0,none⟩),.agg v.cells] w fun e w'=>∃V:Jb,e=.returned (.agg V.cells)∧V.Rd N w' {SAns.none with snap:=⟨v.sn.data,v.a,(s.term v.a).1,c.snap.cf⟩}∧∃I',Je N w' I' {s with snap:=⟨v.sn.data,v.a,(s.term v.a).1,c.snap.cf⟩}∧Jr w w' I I':=by
 obtain ⟨k,hk2⟩:=Int.eq_ofNat_of_zero_le (show 0≤v.a - s.atI by omega);have hdl:v.sn.data.size≤200:=by rw [hv.sn.data];exact hc.sm.2
 have HF:=qq fun (w:World) (c0:Nat) (ds:SlV) (h:Je N w I s) (hcc:PbConf N w c0 c.snap.cf) (hd:RdBytes N w ds v.sn.data) (hds:ds.A=none→ds=⟨none,0,0⟩)=>
  stCreate (k:=k) h ho (by unfold StL.last at h3;omega) (by omega) hcc hc.sm.1 hd hds hdl
 rw [show s.atI+(k:Int)=v.a by omega] at HF;obtain ⟨P,hP0⟩:∃P:Snap,P=⟨v.sn.data,v.a,(s.term v.a).1,c.snap.cf⟩:=⟨_,rfl⟩;rw [←hP0] at HF ⊢;have hPs:P.small:=by rw [hP0];exact ⟨hc.sm.1,hdl⟩
 have HG:=qq fun (w:World) {q m:Nat} (hN:N≤w.heap.size) (h:Kf N w q m P)=>snapFrom N q m P w hN h hPs;generalize ({s with snap:=P}:StL)=s2 at*;clear hP0 hPs hk2 hdl;have hB:=(Jq v w).1;have hR0:=qq (h.no (Jq v w).2);have hb:=Nat.le_trans h.N (Nat.le_of_lt h.mst.lt);have hE:=stoW_eq v w;have h0:=qq (Jq v w).2;have hv0:=qq (hv.fr (Jq v w).2.fr0);have HC:=qq hc;have HO:=qq ho;rw [hk] at hE;obtain ⟨W,hW⟩:∃W,W=stoW v w:=⟨_,rfl⟩;rw [←hW] at hB hR0 hE h0 hv0;have HB:=qq hB;have HE:=qq hE;have hNW:=qq (Nat.le_trans hb h0.out.size);clear h ho hB hE hW hv hc;unfold Jd.cells;rw [hk];go_enter Tryz.func71,Tryz.ntmps71;go_wp2_with fail
 rw [HE.out]
 have HX:=qq fun (W':World) (hu:Upd (LU N W) W W')=>(show W'.cell? ⟨w.heap.size,1,none⟩=some (.int .u64 v.a)∧W'.cell? ⟨w.heap.size,5,none⟩=some (.string v.sn.data)∧W'.cell? ⟨w.heap.size,8,none⟩=some v.sn.cf.vo.v∧W'.cell? ⟨w.heap.size,9,none⟩=some v.sn.cf.le.v∧W'.cell? ⟨w.heap.size,10,none⟩=some v.sn.cf.ou.v∧W'.cell? ⟨w.heap.size,11,none⟩=some v.sn.cf.ne.v∧W'.cell? ⟨w.heap.size,12,none⟩=some (.bool v.sn.cf.auto)∧Upd (LU N W) W W' from
  have hq:=(HB.out.lu hu).b0
  ⟨hq.cell 1,hq.cell 5,hq.cell 8,hq.cell 9,hq.cell 10,hq.cell 11,hq.cell 12,hu⟩)
 have HX0:=qq (HX.out W.drew ((Upd.refl _ W).drew));have HCF:=qq fun (W':World) (hu:Upd (LU N W) W W')=>confTo N v.sn.cf c.snap.cf W' (hv0.out.sn.cf.fr (LU.fr hu)) (Nat.le_trans hNW.out hu.size);go_region_held3 (fun W'=>W'.cell? ⟨w.heap.size,1,none⟩=some (.int .u64 v.a)∧W'.cell? ⟨w.heap.size,5,none⟩=some (.string v.sn.data)∧W'.cell? ⟨w.heap.size,8,none⟩=some v.sn.cf.vo.v∧W'.cell? ⟨w.heap.size,9,none⟩=some v.sn.cf.le.v∧W'.cell? ⟨w.heap.size,10,none⟩=some v.sn.cf.ou.v∧W'.cell? ⟨w.heap.size,11,none⟩=some v.sn.cf.ne.v∧W'.cell? ⟨w.heap.size,12,none⟩=some (.bool v.sn.cf.auto)∧Upd (LU N W) W W')
  (first
   |(with_reducible exact HX0.out)
   |(exact HX.out _ (Upd.no gU u1))
   |(exact HX.out _ (Upd.no gU u2))
   |(exact HX.out _ (LU.trans gU (S3.lu (hR0.out.no ((((Upd.refl No W).drew).no u1).no u2))))))
  (first
   |(go_at_call 126;have gU:=(‹_=_∧_=_∧_=_∧_=_∧_=_∧_=_∧_=_∧Upd (LU N W) W _› :_∧_∧_∧_∧_∧_∧_∧_).2.2.2.2.2.2.2
     first
      |((with_reducible refine (HCF.out _ gU).mono ?_);rintro r w1 ⟨c0,rfl,p1,u1⟩))
   |(go_at_call 127;have gU:=(‹_=_∧_=_∧_=_∧_=_∧_=_∧_=_∧_=_∧Upd (LU N W) W _› :_∧_∧_∧_∧_∧_∧_∧_).2.2.2.2.2.2.2
     first
      |((with_reducible refine (bytesOf N v.sn.data _).mono ?_);rintro r w2 ⟨ds,rfl,rd,n1,n2,u2⟩))
   |(go_at_call 125;have gU:=(‹_=_∧_=_∧_=_∧_=_∧_=_∧_=_∧_=_∧Upd (LU N W) W _› :_∧_∧_∧_∧_∧_∧_∧_).2.2.2.2.2.2.2
     first
      |((with_reducible refine (HF.out _ _ _ (hR0.out.no ((((Upd.refl No W).drew).no u1).no u2)) (p1.fr u2.fr0) rd n2).mono ?_);rintro r w3 ⟨q,m,rfl,hP,R3,S3⟩)))
 have HB1:=qq (HB.out.lu (N:=N) (LU.trans gU (S3.lu (hR0.out.no ((((Upd.refl No W).drew).no u1).no u2)))));have HR1:=qq R3;have HS1:=qq (((Jr.no h0.out).trans (Jr.no (I:=I) ((((Upd.refl No W).drew).no u1).no u2))).trans S3);have HP:=qq hP;clear hP R3 S3 gU u1 u2 p1 rd n1 n2;go_wp2_with fail
 refine (HG.out _ (Nat.le_trans hb HS1.out.upd.size) HP.out).mono ?_;rintro r w1b ⟨u,rfl,hu,U1b⟩;have HB1:=qq (HB1.out.lu (N:=N) U1b.ofNo);have HR1:=qq (HR1.out.no U1b);have HS1:=qq (HS1.out.trans (Jr.no U1b));have HU:=qq hu;clear hu U1b;have z3:w1b.cell? ⟨w.heap.size+1+1,3,none⟩=some (.string ⟨#[]⟩):=HB1.out.b2.cell 3;have y3:=HB1.out.b2.frozen 3;have z4:w1b.cell? ⟨w.heap.size+1+1,4,none⟩=some (.int .u64 0):=HB1.out.b2.cell 4;have y4:=HB1.out.b2.frozen 4;have z5:w1b.cell? ⟨w.heap.size+1+1,5,none⟩=some (.int .u64 0):=HB1.out.b2.cell 5;have y5:=HB1.out.b2.frozen 5;have z6:w1b.cell? ⟨w.heap.size+1+1,6,none⟩=some (.slice none 0 0):=HB1.out.b2.cell 6;have y6:=HB1.out.b2.frozen 6;have z7:w1b.cell? ⟨w.heap.size+1+1,7,none⟩=some (.slice none 0 0):=HB1.out.b2.cell 7;have y7:=HB1.out.b2.frozen 7;have z8:w1b.cell? ⟨w.heap.size+1+1,8,none⟩=some (.slice none 0 0):=HB1.out.b2.cell 8;have y8:=HB1.out.b2.frozen 8;have z9:w1b.cell? ⟨w.heap.size+1+1,9,none⟩=some (.slice none 0 0):=HB1.out.b2.cell 9;have y9:=HB1.out.b2.frozen 9;have z10:w1b.cell? ⟨w.heap.size+1+1,10,none⟩=some (.bool false):=HB1.out.b2.cell 10;have y10:=HB1.out.b2.frozen 10;go_wp2_with fail
 obtain ⟨w2,hw2⟩:∃W,W=((((((((w1b.setCell ⟨w.heap.size+1+1,3,none⟩ (.string u.data)).setCell ⟨w.heap.size+1+1,4,none⟩ (.int .u64 u.index)).setCell ⟨w.heap.size+1+1,5,none⟩ (.int .u64 u.term)).setCell ⟨w.heap.size+1+1,6,none⟩ u.cf.vo.v).setCell ⟨w.heap.size+1+1,7,none⟩ u.cf.le.v).setCell ⟨w.heap.size+1+1,8,none⟩ u.cf.ou.v).setCell ⟨w.heap.size+1+1,9,none⟩ u.cf.ne.v).setCell ⟨w.heap.size+1+1,10,none⟩ (.bool u.cf.auto)):=⟨_,rfl⟩;rw [←hw2]
 have HB2:=qq (show StoB v w.heap.size w2 {Jb.nil with sn:=u} by rw [hw2];exact ((((((((HB1.out.set 3 (.string u.data) {Jb.nil with sn:=⟨u.data,SnV.nil.index,SnV.nil.term,⟨SnV.nil.cf.vo,SnV.nil.cf.le,SnV.nil.cf.ou,SnV.nil.cf.ne,SnV.nil.cf.auto⟩⟩} rfl).set 4 (.int .u64 u.index) {Jb.nil with sn:=⟨u.data,u.index,SnV.nil.term,⟨SnV.nil.cf.vo,SnV.nil.cf.le,SnV.nil.cf.ou,SnV.nil.cf.ne,SnV.nil.cf.auto⟩⟩} rfl).set 5 (.int .u64 u.term) {Jb.nil with sn:=⟨u.data,u.index,u.term,⟨SnV.nil.cf.vo,SnV.nil.cf.le,SnV.nil.cf.ou,SnV.nil.cf.ne,SnV.nil.cf.auto⟩⟩} rfl).set 6 u.cf.vo.v {Jb.nil with sn:=⟨u.data,u.index,u.term,⟨u.cf.vo,SnV.nil.cf.le,SnV.nil.cf.ou,SnV.nil.cf.ne,SnV.nil.cf.auto⟩⟩} rfl).set 7 u.cf.le.v {Jb.nil with sn:=⟨u.data,u.index,u.term,⟨u.cf.vo,u.cf.le,SnV.nil.cf.ou,SnV.nil.cf.ne,SnV.nil.cf.auto⟩⟩} rfl).set 8 u.cf.ou.v {Jb.nil with sn:=⟨u.data,u.index,u.term,⟨u.cf.vo,u.cf.le,u.cf.ou,SnV.nil.cf.ne,SnV.nil.cf.auto⟩⟩} rfl).set 9 u.cf.ne.v {Jb.nil with sn:=⟨u.data,u.index,u.term,⟨u.cf.vo,u.cf.le,u.cf.ou,u.cf.ne,SnV.nil.cf.auto⟩⟩} rfl).set 10 (.bool u.cf.auto) {Jb.nil with sn:=⟨u.data,u.index,u.term,⟨u.cf.vo,u.cf.le,u.cf.ou,u.cf.ne,u.cf.auto⟩⟩} rfl));have X2:=HB1.out.many HB2.out (by rw [hw2];exact (((((((((Upd.refl (fun k=>k=w.heap.size+1+1) w1b).setIn rfl 3 _).setIn rfl 4 _).setIn rfl 5 _).setIn rfl 6 _).setIn rfl 7 _).setIn rfl 8 _).setIn rfl 9 _).setIn rfl 10 _)) hb (Nat.le_refl _) HR1.out HS1.out;have HR2:=qq X2.1;have HS2:=qq X2.2.1;have HF2:=qq X2.2.2
 clear X2 hw2 z3 y3 z4 y4 z5 y5 z6 y6 z7 y7 z8 y8 z9 y9 z10 y10;have HV2:=qq (show ({Jb.nil with sn:=u}:Jb).Rd N w2 {SAns.none with snap:=P} from ⟨rfl,rfl,Jg.nil none,HU.out.fr HF2.out⟩);refine (errOf0 w2).mono ?_;rintro r w3 ⟨rfl,rfl⟩;have z0:w2.cell? ⟨w.heap.size+1+1,0,none⟩=some (.int .i64 0):=HB2.out.b2.cell 0;have y0:=HB2.out.b2.frozen 0;obtain ⟨w3,hw3⟩:∃W,W=w2.setCell {block:=w.heap.size+1+1,off:=0} (Value.int IntKind.i64 (0)):=⟨_,rfl⟩;have HB3:=qq (show StoB v w.heap.size w3 { {Jb.nil with sn:=u} with err:=0} by rw [hw3];exact HB2.out.set 0 _ _ rfl);have HS:=qq (Jb.inf { {Jb.nil with sn:=u} with err:=0});have HONE:=qq (Jb.one { {Jb.nil with sn:=u} with err:=0});have HW3:=qq hw3;clear hw3
 go_wp2_with (first
  |(with_reducible refine Jm rfl 69 (.tmp 5) rfl (w.heap.size+1+1) { {Jb.nil with sn:=u} with err:=0}.cells rfl 69 _ (HW3.out ▸HB3.out.b2) Tryz.underlying69 rfl HS.out ?_)
  |(with_reducible refine Jk rfl 69 (.tmp 4) (.tmp 133) rfl (w.heap.size+1) { {Jb.nil with sn:=u} with err:=0}.cells rfl rfl 69 Jb.nil.cells (HW3.out ▸HB3.out.b1) HS.out rfl HONE.out ?_))
 intro w4 hb4 hu4;go_wp2;refine Jb.ret { {Jb.nil with sn:=u} with err:=0} rfl (w.heap.size+1) rfl hb4 rfl ?_;have X:=HB2.out.fin hb (Nat.le_refl _) HV2.out HR2.out HS2.out hu4;exact ⟨_,rfl,X.1,X.2⟩
theorem sto_3l (h:Je N w I s) (ho:s.Ok) (hv:v.Rd N w c) (hc:c.Ok) (hk:v.kind=3) (h1:v.a≤s.snap.index):
  Calls Tryz.prog 71 #[.pointer (some ⟨I.ms,0,none⟩),.agg v.cells] w fun e w'=>∃V:Jb,e=.returned (.agg V.cells)∧V.Rd N w' {SAns.none with err:=2}∧∃I',Je N w' I' s∧Jr w w' I I':=by
 have HF:=qq fun (w:World) (x y:Value) (h:Je N w I s)=>stCreate_low (x:=x) (y:=y) h h1;have hB:=(Jq v w).1;have hR0:=qq (h.no (Jq v w).2);have hb:=Nat.le_trans h.N (Nat.le_of_lt h.mst.lt);have hE:=stoW_eq v w;have h0:=qq (Jq v w).2;have hv0:=qq (hv.fr (Jq v w).2.fr0);have HC:=qq hc;have HO:=qq ho;rw [hk] at hE;obtain ⟨W,hW⟩:∃W,W=stoW v w:=⟨_,rfl⟩;rw [←hW] at hB hR0 hE h0 hv0;have HB:=qq hB;have HE:=qq hE;have hNW:=qq (Nat.le_trans hb h0.out.size);clear h ho hB hE hW hv hc;unfold Jd.cells;rw [hk];go_enter Tryz.func71,Tryz.ntmps71;go_wp2_with fail
 rw [HE.out]
 have HX:=qq fun (W':World) (hu:Upd (LU N W) W W')=>(show W'.cell? ⟨w.heap.size,1,none⟩=some (.int .u64 v.a)∧W'.cell? ⟨w.heap.size,5,none⟩=some (.string v.sn.data)∧W'.cell? ⟨w.heap.size,8,none⟩=some v.sn.cf.vo.v∧W'.cell? ⟨w.heap.size,9,none⟩=some v.sn.cf.le.v∧W'.cell? ⟨w.heap.size,10,none⟩=some v.sn.cf.ou.v∧W'.cell? ⟨w.heap.size,11,none⟩=some v.sn.cf.ne.v∧W'.cell? ⟨w.heap.size,12,none⟩=some (.bool v.sn.cf.auto)∧Upd (LU N W) W W' from
  have hq:=(HB.out.lu hu).b0
  ⟨hq.cell 1,hq.cell 5,hq.cell 8,hq.cell 9,hq.cell 10,hq.cell 11,hq.cell 12,hu⟩)
 have HX0:=qq (HX.out W.drew ((Upd.refl _ W).drew));have HCF:=qq fun (W':World) (hu:Upd (LU N W) W W')=>confTo N v.sn.cf c.snap.cf W' (hv0.out.sn.cf.fr (LU.fr hu)) (Nat.le_trans hNW.out hu.size);go_region_held3 (fun W'=>W'.cell? ⟨w.heap.size,1,none⟩=some (.int .u64 v.a)∧W'.cell? ⟨w.heap.size,5,none⟩=some (.string v.sn.data)∧W'.cell? ⟨w.heap.size,8,none⟩=some v.sn.cf.vo.v∧W'.cell? ⟨w.heap.size,9,none⟩=some v.sn.cf.le.v∧W'.cell? ⟨w.heap.size,10,none⟩=some v.sn.cf.ou.v∧W'.cell? ⟨w.heap.size,11,none⟩=some v.sn.cf.ne.v∧W'.cell? ⟨w.heap.size,12,none⟩=some (.bool v.sn.cf.auto)∧Upd (LU N W) W W')
  (first
   |(with_reducible exact HX0.out)
   |(exact HX.out _ (Upd.no gU u1))
   |(exact HX.out _ (Upd.no gU u2))
   |(exact HX.out _ gU))
  (first
   |(go_at_call 126;have gU:=(‹_=_∧_=_∧_=_∧_=_∧_=_∧_=_∧_=_∧Upd (LU N W) W _› :_∧_∧_∧_∧_∧_∧_∧_).2.2.2.2.2.2.2
     first
      |((with_reducible refine (HCF.out _ gU).mono ?_);rintro r w1 ⟨c0,rfl,p1,u1⟩))
   |(go_at_call 127;have gU:=(‹_=_∧_=_∧_=_∧_=_∧_=_∧_=_∧_=_∧Upd (LU N W) W _› :_∧_∧_∧_∧_∧_∧_∧_).2.2.2.2.2.2.2
     first
      |((with_reducible refine (bytesOf N v.sn.data _).mono ?_);rintro r w2 ⟨ds,rfl,rd,n1,n2,u2⟩))
   |(go_at_call 125;have gU:=(‹_=_∧_=_∧_=_∧_=_∧_=_∧_=_∧_=_∧Upd (LU N W) W _› :_∧_∧_∧_∧_∧_∧_∧_).2.2.2.2.2.2.2
     first
      |((with_reducible refine (HF.out _ _ _ (hR0.out.no ((((Upd.refl No W).drew).no u1).no u2))).mono ?_);rintro r w3 ⟨rfl,rfl⟩)))
 have HB1:=qq (HB.out.lu (N:=N) gU);have HR1:=qq (hR0.out.no ((((Upd.refl No W).drew).no u1).no u2));have HS1:=qq ((Jr.no h0.out).trans (Jr.no (I:=I) ((((Upd.refl No W).drew).no u1).no u2)));clear gU u1 p1 rd n1 n2;go_wp2_with fail
 refine (snapFrom_nil N _ (Nat.le_trans hb HS1.out.upd.size)).mono ?_;rintro r w1b ⟨u,rfl,hu,U1b⟩;have HB1:=qq (HB1.out.lu (N:=N) U1b.ofNo);have HR1:=qq (HR1.out.no U1b);have HS1:=qq (HS1.out.trans (Jr.no U1b));have HU:=qq hu;clear hu U1b u2;have z3:w1b.cell? ⟨w.heap.size+1+1,3,none⟩=some (.string ⟨#[]⟩):=HB1.out.b2.cell 3;have y3:=HB1.out.b2.frozen 3;have z4:w1b.cell? ⟨w.heap.size+1+1,4,none⟩=some (.int .u64 0):=HB1.out.b2.cell 4;have y4:=HB1.out.b2.frozen 4;have z5:w1b.cell? ⟨w.heap.size+1+1,5,none⟩=some (.int .u64 0):=HB1.out.b2.cell 5;have y5:=HB1.out.b2.frozen 5;have z6:w1b.cell? ⟨w.heap.size+1+1,6,none⟩=some (.slice none 0 0):=HB1.out.b2.cell 6;have y6:=HB1.out.b2.frozen 6;have z7:w1b.cell? ⟨w.heap.size+1+1,7,none⟩=some (.slice none 0 0):=HB1.out.b2.cell 7;have y7:=HB1.out.b2.frozen 7;have z8:w1b.cell? ⟨w.heap.size+1+1,8,none⟩=some (.slice none 0 0):=HB1.out.b2.cell 8;have y8:=HB1.out.b2.frozen 8;have z9:w1b.cell? ⟨w.heap.size+1+1,9,none⟩=some (.slice none 0 0):=HB1.out.b2.cell 9;have y9:=HB1.out.b2.frozen 9;have z10:w1b.cell? ⟨w.heap.size+1+1,10,none⟩=some (.bool false):=HB1.out.b2.cell 10;have y10:=HB1.out.b2.frozen 10;go_wp2_with fail
 obtain ⟨w2,hw2⟩:∃W,W=((((((((w1b.setCell ⟨w.heap.size+1+1,3,none⟩ (.string u.data)).setCell ⟨w.heap.size+1+1,4,none⟩ (.int .u64 u.index)).setCell ⟨w.heap.size+1+1,5,none⟩ (.int .u64 u.term)).setCell ⟨w.heap.size+1+1,6,none⟩ u.cf.vo.v).setCell ⟨w.heap.size+1+1,7,none⟩ u.cf.le.v).setCell ⟨w.heap.size+1+1,8,none⟩ u.cf.ou.v).setCell ⟨w.heap.size+1+1,9,none⟩ u.cf.ne.v).setCell ⟨w.heap.size+1+1,10,none⟩ (.bool u.cf.auto)):=⟨_,rfl⟩;rw [←hw2]
 have HB2:=qq (show StoB v w.heap.size w2 {Jb.nil with sn:=u} by rw [hw2];exact ((((((((HB1.out.set 3 (.string u.data) {Jb.nil with sn:=⟨u.data,SnV.nil.index,SnV.nil.term,⟨SnV.nil.cf.vo,SnV.nil.cf.le,SnV.nil.cf.ou,SnV.nil.cf.ne,SnV.nil.cf.auto⟩⟩} rfl).set 4 (.int .u64 u.index) {Jb.nil with sn:=⟨u.data,u.index,SnV.nil.term,⟨SnV.nil.cf.vo,SnV.nil.cf.le,SnV.nil.cf.ou,SnV.nil.cf.ne,SnV.nil.cf.auto⟩⟩} rfl).set 5 (.int .u64 u.term) {Jb.nil with sn:=⟨u.data,u.index,u.term,⟨SnV.nil.cf.vo,SnV.nil.cf.le,SnV.nil.cf.ou,SnV.nil.cf.ne,SnV.nil.cf.auto⟩⟩} rfl).set 6 u.cf.vo.v {Jb.nil with sn:=⟨u.data,u.index,u.term,⟨u.cf.vo,SnV.nil.cf.le,SnV.nil.cf.ou,SnV.nil.cf.ne,SnV.nil.cf.auto⟩⟩} rfl).set 7 u.cf.le.v {Jb.nil with sn:=⟨u.data,u.index,u.term,⟨u.cf.vo,u.cf.le,SnV.nil.cf.ou,SnV.nil.cf.ne,SnV.nil.cf.auto⟩⟩} rfl).set 8 u.cf.ou.v {Jb.nil with sn:=⟨u.data,u.index,u.term,⟨u.cf.vo,u.cf.le,u.cf.ou,SnV.nil.cf.ne,SnV.nil.cf.auto⟩⟩} rfl).set 9 u.cf.ne.v {Jb.nil with sn:=⟨u.data,u.index,u.term,⟨u.cf.vo,u.cf.le,u.cf.ou,u.cf.ne,SnV.nil.cf.auto⟩⟩} rfl).set 10 (.bool u.cf.auto) {Jb.nil with sn:=⟨u.data,u.index,u.term,⟨u.cf.vo,u.cf.le,u.cf.ou,u.cf.ne,u.cf.auto⟩⟩} rfl));have X2:=HB1.out.many HB2.out (by rw [hw2];exact (((((((((Upd.refl (fun k=>k=w.heap.size+1+1) w1b).setIn rfl 3 _).setIn rfl 4 _).setIn rfl 5 _).setIn rfl 6 _).setIn rfl 7 _).setIn rfl 8 _).setIn rfl 9 _).setIn rfl 10 _)) hb (Nat.le_refl _) HR1.out HS1.out;have HR2:=qq X2.1;have HS2:=qq X2.2.1;have HF2:=qq X2.2.2
 clear X2 hw2 z3 y3 z4 y4 z5 y5 z6 y6 z7 y7 z8 y8 z9 y9 z10 y10;have HV2:=qq (show ({Jb.nil with sn:=u}:Jb).Rd N w2 SAns.none from ⟨rfl,rfl,Jg.nil none,HU.out.fr HF2.out⟩);refine (errOf2 w2).mono ?_;rintro r w3 ⟨rfl,rfl⟩;have z0:w2.cell? ⟨w.heap.size+1+1,0,none⟩=some (.int .i64 0):=HB2.out.b2.cell 0;have y0:=HB2.out.b2.frozen 0;obtain ⟨w3,hw3⟩:∃W,W=w2.setCell {block:=w.heap.size+1+1,off:=0} (Value.int IntKind.i64 (2)):=⟨_,rfl⟩;have HB3:=qq (show StoB v w.heap.size w3 { {Jb.nil with sn:=u} with err:=2} by rw [hw3];exact HB2.out.set 0 _ _ rfl);have HS:=qq (Jb.inf { {Jb.nil with sn:=u} with err:=2});have HONE:=qq (Jb.one { {Jb.nil with sn:=u} with err:=2});have HW3:=qq hw3;clear hw3
 go_wp2_with (first
  |(with_reducible refine Jm rfl 69 (.tmp 5) rfl (w.heap.size+1+1) { {Jb.nil with sn:=u} with err:=2}.cells rfl 69 _ (HW3.out ▸HB3.out.b2) Tryz.underlying69 rfl HS.out ?_)
  |(with_reducible refine Jk rfl 69 (.tmp 4) (.tmp 133) rfl (w.heap.size+1) { {Jb.nil with sn:=u} with err:=2}.cells rfl rfl 69 Jb.nil.cells (HW3.out ▸HB3.out.b1) HS.out rfl HONE.out ?_))
 intro w4 hb4 hu4;go_wp2;refine Jb.ret { {Jb.nil with sn:=u} with err:=2} rfl (w.heap.size+1) rfl hb4 rfl ?_;have X:=HB2.out.fin hb (Nat.le_refl _) HV2.out HR2.out HS2.out hu4;exact ⟨_,rfl,X.1,X.2⟩
theorem sto_11 (h:Je N w I s) (ho:s.Ok) (hv:v.Rd N w c) (hc:c.Ok) (hk:v.kind=11):
  Calls Tryz.prog 71 #[.pointer (some ⟨I.ms,0,none⟩),.agg v.cells] w fun e w'=>∃V:Jb,e=.returned (.agg V.cells)∧V.Rd N w' SAns.none∧∃I',Je N w' I' s∧Jr w w' I I':=by
 have HF:=qq fun (w:World) (h:Je N w I s)=>stInitial h;have HG:=qq fun (w:World) {p:Nat} (hN:N≤w.heap.size) (h:PbConf N w p s.snap.cf)=>confFrom N p s.snap.cf w hN h ho.small.1;have hB:=(Jq v w).1;have hR0:=qq (h.no (Jq v w).2);have hb:=Nat.le_trans h.N (Nat.le_of_lt h.mst.lt);have hE:=stoW_eq v w;have h0:=qq (Jq v w).2;have hv0:=qq (hv.fr (Jq v w).2.fr0);have HC:=qq hc;have HO:=qq ho;rw [hk] at hE;obtain ⟨W,hW⟩:∃W,W=stoW v w:=⟨_,rfl⟩;rw [←hW] at hB hR0 hE h0 hv0;have HB:=qq hB;have HE:=qq hE;have hNW:=qq (Nat.le_trans hb h0.out.size);clear h ho hB hE hW hv hc;unfold Jd.cells;rw [hk];go_enter Tryz.func71,Tryz.ntmps71;go_wp2_with fail
 rw [HE.out];refine (HF.out _ hR0.out).mono ?_;rintro r w1 ⟨hp,cp,rfl,hH,hP,R1,U1⟩;have hB1:=HB.out.lu (N:=N) (U1.mono (by rintro k rfl;exact ⟨hR0.out.N,_,hR0.out.mst,rfl⟩));have HB1:=qq hB1;have HR1:=qq R1;have HS1:=qq ((Jr.no h0.out).trans (Jr.of U1));have HF1:=qq ((Jr.of U1:Jr W w1 I I).fr hR0.out);clear R1 U1;clear hB1;rcases hp with _|ap
 ·have HHD:=qq hH;have HP:=qq hP;clear hH hP;go_wp2_with fail
  refine (hardFrom HHD.out).mono ?_;rintro r w1h ⟨x,y,z,rfl,U1h⟩;have HB1:=qq (HB1.out.lu (N:=N) U1h.ofNo);have HR1:=qq (HR1.out.no U1h);have HS1:=qq (HS1.out.trans (Jr.no U1h));have HP:=qq (HP.out.fr U1h.fr0);clear U1h;go_wp2_with fail
  refine (HG.out _ (Nat.le_trans hb HS1.out.upd.size) HP.out).mono ?_;rintro r w1b ⟨k,rfl,hu,U1b⟩;have HB1:=qq (HB1.out.lu (N:=N) U1b.ofNo);have HR1:=qq (HR1.out.no U1b);have HS1:=qq (HS1.out.trans (Jr.no U1b));clear hu U1b;have z11:w1b.cell? ⟨w.heap.size+1+1,11,none⟩=some (.int .u64 0):=HB1.out.b2.cell 11;have y11:=HB1.out.b2.frozen 11;have z12:w1b.cell? ⟨w.heap.size+1+1,12,none⟩=some (.int .u64 0):=HB1.out.b2.cell 12;have y12:=HB1.out.b2.frozen 12;have z13:w1b.cell? ⟨w.heap.size+1+1,13,none⟩=some (.int .u64 0):=HB1.out.b2.cell 13;have y13:=HB1.out.b2.frozen 13;have z14:w1b.cell? ⟨w.heap.size+1+1,14,none⟩=some (.bool false):=HB1.out.b2.cell 14;have y14:=HB1.out.b2.frozen 14;have z15:w1b.cell? ⟨w.heap.size+1+1,15,none⟩=some (.slice none 0 0):=HB1.out.b2.cell 15;have y15:=HB1.out.b2.frozen 15;have z16:w1b.cell? ⟨w.heap.size+1+1,16,none⟩=some (.slice none 0 0):=HB1.out.b2.cell 16;have y16:=HB1.out.b2.frozen 16;have z17:w1b.cell? ⟨w.heap.size+1+1,17,none⟩=some (.slice none 0 0):=HB1.out.b2.cell 17;have y17:=HB1.out.b2.frozen 17;have z18:w1b.cell? ⟨w.heap.size+1+1,18,none⟩=some (.slice none 0 0):=HB1.out.b2.cell 18;have y18:=HB1.out.b2.frozen 18;have z19:w1b.cell? ⟨w.heap.size+1+1,19,none⟩=some (.bool false):=HB1.out.b2.cell 19;have y19:=HB1.out.b2.frozen 19;go_wp2_with fail
  obtain ⟨w2,hw2⟩:∃W,W=(((((((((w1b.setCell ⟨w.heap.size+1+1,11,none⟩ (.int .u64 x)).setCell ⟨w.heap.size+1+1,12,none⟩ (.int .u64 y)).setCell ⟨w.heap.size+1+1,13,none⟩ (.int .u64 z)).setCell ⟨w.heap.size+1+1,14,none⟩ (.bool false)).setCell ⟨w.heap.size+1+1,15,none⟩ k.vo.v).setCell ⟨w.heap.size+1+1,16,none⟩ k.le.v).setCell ⟨w.heap.size+1+1,17,none⟩ k.ou.v).setCell ⟨w.heap.size+1+1,18,none⟩ k.ne.v).setCell ⟨w.heap.size+1+1,19,none⟩ (.bool k.auto)):=⟨_,rfl⟩;rw [←hw2];have HB2:=qq (show StoB v w.heap.size w2 {Jb.nil with x:=x,y:=y,z:=z,has:=false,cf:=k} by rw [hw2];exact (((((((((HB1.out.set 11 (.int .u64 x) {Jb.nil with x:=x} rfl).set 12 (.int .u64 y) {Jb.nil with x:=x,y:=y} rfl).set 13 (.int .u64 z) {Jb.nil with x:=x,y:=y,z:=z} rfl).set 14 (.bool false) {Jb.nil with x:=x,y:=y,z:=z,has:=false} rfl).set 15 k.vo.v {Jb.nil with x:=x,y:=y,z:=z,has:=false,cf:=⟨k.vo,CfV.nil.le,CfV.nil.ou,CfV.nil.ne,CfV.nil.auto⟩} rfl).set 16 k.le.v {Jb.nil with x:=x,y:=y,z:=z,has:=false,cf:=⟨k.vo,k.le,CfV.nil.ou,CfV.nil.ne,CfV.nil.auto⟩} rfl).set 17 k.ou.v {Jb.nil with x:=x,y:=y,z:=z,has:=false,cf:=⟨k.vo,k.le,k.ou,CfV.nil.ne,CfV.nil.auto⟩} rfl).set 18 k.ne.v {Jb.nil with x:=x,y:=y,z:=z,has:=false,cf:=⟨k.vo,k.le,k.ou,k.ne,CfV.nil.auto⟩} rfl).set 19 (.bool k.auto) {Jb.nil with x:=x,y:=y,z:=z,has:=false,cf:=⟨k.vo,k.le,k.ou,k.ne,k.auto⟩} rfl))
  have X2:=HB1.out.many HB2.out (by rw [hw2];exact ((((((((((Upd.refl (fun k=>k=w.heap.size+1+1) w1b).setIn rfl 11 _).setIn rfl 12 _).setIn rfl 13 _).setIn rfl 14 _).setIn rfl 15 _).setIn rfl 16 _).setIn rfl 17 _).setIn rfl 18 _).setIn rfl 19 _)) hb (Nat.le_refl _) HR1.out HS1.out;have HR2:=qq X2.1;have HS2:=qq X2.2.1;have HF2:=qq X2.2.2;clear X2 hw2 z11 y11 z12 y12 z13 y13 z14 y14 z15 y15 z16 y16 z17 y17 z18 y18 z19 y19;have HV2:=qq (show ({Jb.nil with x:=x,y:=y,z:=z,has:=false,cf:=k}:Jb).Rd N w2 SAns.none from ⟨rfl,rfl,Jg.nil none,SnV.Js N w2⟩);refine (errOf0 w2).mono ?_;rintro r w3 ⟨rfl,rfl⟩;have z0:w2.cell? ⟨w.heap.size+1+1,0,none⟩=some (.int .i64 0):=HB2.out.b2.cell 0;have y0:=HB2.out.b2.frozen 0;obtain ⟨w3,hw3⟩:∃W,W=w2.setCell {block:=w.heap.size+1+1,off:=0} (Value.int IntKind.i64 (0)):=⟨_,rfl⟩;have HB3:=qq (show StoB v w.heap.size w3 { {Jb.nil with x:=x,y:=y,z:=z,has:=false,cf:=k} with err:=0} by rw [hw3];exact HB2.out.set 0 _ _ rfl);have HS:=qq (Jb.inf { {Jb.nil with x:=x,y:=y,z:=z,has:=false,cf:=k} with err:=0});have HONE:=qq (Jb.one { {Jb.nil with x:=x,y:=y,z:=z,has:=false,cf:=k} with err:=0});have HW3:=qq hw3;clear hw3
  go_wp2_with (first
   |(with_reducible refine Jm rfl 69 (.tmp 5) rfl (w.heap.size+1+1) { {Jb.nil with x:=x,y:=y,z:=z,has:=false,cf:=k} with err:=0}.cells rfl 69 _ (HW3.out ▸HB3.out.b2) Tryz.underlying69 rfl HS.out ?_)
   |(with_reducible refine Jk rfl 69 (.tmp 4) (.tmp 133) rfl (w.heap.size+1) { {Jb.nil with x:=x,y:=y,z:=z,has:=false,cf:=k} with err:=0}.cells rfl rfl 69 Jb.nil.cells (HW3.out ▸HB3.out.b1) HS.out rfl HONE.out ?_))
  intro w4 hb4 hu4;go_wp2;refine Jb.ret { {Jb.nil with x:=x,y:=y,z:=z,has:=false,cf:=k} with err:=0} rfl (w.heap.size+1) rfl hb4 rfl ?_;have X:=HB2.out.fin hb (Nat.le_refl _) HV2.out HR2.out HS2.out hu4;exact ⟨_,rfl,X.1,X.2⟩
 ·have HHD:=qq hH;have HP:=qq hP;clear hH hP;go_wp2_with fail
  refine (hardFrom HHD.out).mono ?_;rintro r w1h ⟨x,y,z,rfl,U1h⟩;have HB1:=qq (HB1.out.lu (N:=N) U1h.ofNo);have HR1:=qq (HR1.out.no U1h);have HS1:=qq (HS1.out.trans (Jr.no U1h));have HP:=qq (HP.out.fr U1h.fr0);clear U1h;go_wp2_with fail
  refine (HG.out _ (Nat.le_trans hb HS1.out.upd.size) HP.out).mono ?_;rintro r w1b ⟨k,rfl,hu,U1b⟩;have HB1:=qq (HB1.out.lu (N:=N) U1b.ofNo);have HR1:=qq (HR1.out.no U1b);have HS1:=qq (HS1.out.trans (Jr.no U1b));clear hu U1b;have z11:w1b.cell? ⟨w.heap.size+1+1,11,none⟩=some (.int .u64 0):=HB1.out.b2.cell 11;have y11:=HB1.out.b2.frozen 11;have z12:w1b.cell? ⟨w.heap.size+1+1,12,none⟩=some (.int .u64 0):=HB1.out.b2.cell 12;have y12:=HB1.out.b2.frozen 12;have z13:w1b.cell? ⟨w.heap.size+1+1,13,none⟩=some (.int .u64 0):=HB1.out.b2.cell 13;have y13:=HB1.out.b2.frozen 13;have z14:w1b.cell? ⟨w.heap.size+1+1,14,none⟩=some (.bool false):=HB1.out.b2.cell 14;have y14:=HB1.out.b2.frozen 14;have z15:w1b.cell? ⟨w.heap.size+1+1,15,none⟩=some (.slice none 0 0):=HB1.out.b2.cell 15;have y15:=HB1.out.b2.frozen 15;have z16:w1b.cell? ⟨w.heap.size+1+1,16,none⟩=some (.slice none 0 0):=HB1.out.b2.cell 16;have y16:=HB1.out.b2.frozen 16;have z17:w1b.cell? ⟨w.heap.size+1+1,17,none⟩=some (.slice none 0 0):=HB1.out.b2.cell 17;have y17:=HB1.out.b2.frozen 17;have z18:w1b.cell? ⟨w.heap.size+1+1,18,none⟩=some (.slice none 0 0):=HB1.out.b2.cell 18;have y18:=HB1.out.b2.frozen 18;have z19:w1b.cell? ⟨w.heap.size+1+1,19,none⟩=some (.bool false):=HB1.out.b2.cell 19;have y19:=HB1.out.b2.frozen 19;go_wp2_with fail
  obtain ⟨w2,hw2⟩:∃W,W=(((((((((w1b.setCell ⟨w.heap.size+1+1,11,none⟩ (.int .u64 x)).setCell ⟨w.heap.size+1+1,12,none⟩ (.int .u64 y)).setCell ⟨w.heap.size+1+1,13,none⟩ (.int .u64 z)).setCell ⟨w.heap.size+1+1,14,none⟩ (.bool true)).setCell ⟨w.heap.size+1+1,15,none⟩ k.vo.v).setCell ⟨w.heap.size+1+1,16,none⟩ k.le.v).setCell ⟨w.heap.size+1+1,17,none⟩ k.ou.v).setCell ⟨w.heap.size+1+1,18,none⟩ k.ne.v).setCell ⟨w.heap.size+1+1,19,none⟩ (.bool k.auto)):=⟨_,rfl⟩;rw [←hw2];have HB2:=qq (show StoB v w.heap.size w2 {Jb.nil with x:=x,y:=y,z:=z,has:=true,cf:=k} by rw [hw2];exact (((((((((HB1.out.set 11 (.int .u64 x) {Jb.nil with x:=x} rfl).set 12 (.int .u64 y) {Jb.nil with x:=x,y:=y} rfl).set 13 (.int .u64 z) {Jb.nil with x:=x,y:=y,z:=z} rfl).set 14 (.bool true) {Jb.nil with x:=x,y:=y,z:=z,has:=true} rfl).set 15 k.vo.v {Jb.nil with x:=x,y:=y,z:=z,has:=true,cf:=⟨k.vo,CfV.nil.le,CfV.nil.ou,CfV.nil.ne,CfV.nil.auto⟩} rfl).set 16 k.le.v {Jb.nil with x:=x,y:=y,z:=z,has:=true,cf:=⟨k.vo,k.le,CfV.nil.ou,CfV.nil.ne,CfV.nil.auto⟩} rfl).set 17 k.ou.v {Jb.nil with x:=x,y:=y,z:=z,has:=true,cf:=⟨k.vo,k.le,k.ou,CfV.nil.ne,CfV.nil.auto⟩} rfl).set 18 k.ne.v {Jb.nil with x:=x,y:=y,z:=z,has:=true,cf:=⟨k.vo,k.le,k.ou,k.ne,CfV.nil.auto⟩} rfl).set 19 (.bool k.auto) {Jb.nil with x:=x,y:=y,z:=z,has:=true,cf:=⟨k.vo,k.le,k.ou,k.ne,k.auto⟩} rfl))
  have X2:=HB1.out.many HB2.out (by rw [hw2];exact ((((((((((Upd.refl (fun k=>k=w.heap.size+1+1) w1b).setIn rfl 11 _).setIn rfl 12 _).setIn rfl 13 _).setIn rfl 14 _).setIn rfl 15 _).setIn rfl 16 _).setIn rfl 17 _).setIn rfl 18 _).setIn rfl 19 _)) hb (Nat.le_refl _) HR1.out HS1.out;have HR2:=qq X2.1;have HS2:=qq X2.2.1;have HF2:=qq X2.2.2;clear X2 hw2 z11 y11 z12 y12 z13 y13 z14 y14 z15 y15 z16 y16 z17 y17 z18 y18 z19 y19;have HV2:=qq (show ({Jb.nil with x:=x,y:=y,z:=z,has:=true,cf:=k}:Jb).Rd N w2 SAns.none from ⟨rfl,rfl,Jg.nil none,SnV.Js N w2⟩);refine (errOf0 w2).mono ?_;rintro r w3 ⟨rfl,rfl⟩;have z0:w2.cell? ⟨w.heap.size+1+1,0,none⟩=some (.int .i64 0):=HB2.out.b2.cell 0;have y0:=HB2.out.b2.frozen 0;obtain ⟨w3,hw3⟩:∃W,W=w2.setCell {block:=w.heap.size+1+1,off:=0} (Value.int IntKind.i64 (0)):=⟨_,rfl⟩;have HB3:=qq (show StoB v w.heap.size w3 { {Jb.nil with x:=x,y:=y,z:=z,has:=true,cf:=k} with err:=0} by rw [hw3];exact HB2.out.set 0 _ _ rfl);have HS:=qq (Jb.inf { {Jb.nil with x:=x,y:=y,z:=z,has:=true,cf:=k} with err:=0});have HONE:=qq (Jb.one { {Jb.nil with x:=x,y:=y,z:=z,has:=true,cf:=k} with err:=0});have HW3:=qq hw3;clear hw3
  go_wp2_with (first
   |(with_reducible refine Jm rfl 69 (.tmp 5) rfl (w.heap.size+1+1) { {Jb.nil with x:=x,y:=y,z:=z,has:=true,cf:=k} with err:=0}.cells rfl 69 _ (HW3.out ▸HB3.out.b2) Tryz.underlying69 rfl HS.out ?_)
   |(with_reducible refine Jk rfl 69 (.tmp 4) (.tmp 133) rfl (w.heap.size+1) { {Jb.nil with x:=x,y:=y,z:=z,has:=true,cf:=k} with err:=0}.cells rfl rfl 69 Jb.nil.cells (HW3.out ▸HB3.out.b1) HS.out rfl HONE.out ?_))
  intro w4 hb4 hu4;go_wp2;refine Jb.ret { {Jb.nil with x:=x,y:=y,z:=z,has:=true,cf:=k} with err:=0} rfl (w.heap.size+1) rfl hb4 rfl ?_;have X:=HB2.out.fin hb (Nat.le_refl _) HV2.out HR2.out HS2.out hu4;exact ⟨_,rfl,X.1,X.2⟩
end
section
variable {N:Nat} {w w' w'':World} {I I' I'':SId} {s s':StL} {v:Jd} {c:SCall} {A:SAns}
theorem lim_nil (m:Int):lim [] m=0:=rfl
theorem SAns.lim_ne (h:c.kind≠5):A.lim c=A:=by unfold SAns.lim;rw [if_neg h]
theorem sto (h:Je N w I s) (ho:s.Ok) (hv:v.Rd N w c) (hc:c.Ok) (hd:SDo s c=some (A,s')):
  Calls Tryz.prog 71 #[.pointer (some ⟨I.ms,0,none⟩),.agg v.cells] w fun e w'=>∃V:Jb,e=.returned (.agg V.cells)∧V.Rd N w' (A.lim c)∧∃I',Je N w' I' s'∧Jr w w' I I':=by
 have hvk:=hv.kind;unfold SDo at hd;split at hd
 ·rename_i hk
  obtain ⟨s2,h1,h2⟩:=Option.map_eq_some_iff.1 hd;cases h2;rw [SAns.lim_ne (by omega)];exact sto_1 h ho hv hc (by omega) h1
 split at hd
 ·rename_i hk
  rw [SAns.lim_ne (by omega)];unfold StL.compact at hd;split at hd
  ·rename_i h1
   cases hd;exact sto_2l h ho hv hc (by omega) h1
  split at hd
  ·cases hd
  ·cases hd;exact sto_2 h ho hv hc (by omega) (by omega) (by omega)
 split at hd
 ·rename_i hk
  rw [SAns.lim_ne (by omega)];unfold StL.create at hd;split at hd
  ·rename_i h1
   cases hd;exact sto_3l h ho hv hc (by omega) (by rw [hv.a];exact h1)
  split at hd
  ·cases hd
  ·rename_i h1 h2
   have:=sto_3 h ho hv hc (by omega) (by rw [hv.a];omega) (by rw [hv.a];omega) (by rw [hv.a];omega)
   rw [hv.a,hv.sn.data] at this;cases hd;exact this
 split at hd
 ·rename_i hk
  rw [SAns.lim_ne (by omega)];have h1:=sto_4 h ho hv hc (by omega) hd;have h2:({SAns.none with err:=A.err}:SAns)=A:=by
   unfold StL.apply at hd;split at hd
   ·cases hd
   split at hd
   ·cases hd;rfl
   ·cases hd;rfl
  rw [h2] at h1;exact h1
 split at hd
 ·rename_i hk
  unfold StL.entries at hd;unfold SAns.lim;rw [if_pos hk];split at hd
  ·rename_i h1
   split at hd
   ·cases hd;have:=sto_5l h ho hv hc (by omega) h1;exact this
   ·cases hd
  split at hd
  ·cases hd
  ·rename_i h1 h2
   cases hd;have:=sto_5 h ho hv hc (by omega) (by unfold StL.first;omega) (by omega) (by omega);exact this
 split at hd
 ·rename_i hk
  rw [SAns.lim_ne (by omega)];split at hd
  ·rename_i h1
   cases hd;exact sto_6 h ho hv hc (by omega) h1
  ·cases hd
 split at hd
 ·rename_i hk
  rw [SAns.lim_ne (by omega)];cases hd;exact sto_7 h ho hv hc (by omega)
 split at hd
 ·rename_i hk
  rw [SAns.lim_ne (by omega)];cases hd;exact sto_8 h ho hv hc (by omega)
 split at hd
 ·rename_i hk
  rw [SAns.lim_ne (by omega)];cases hd;exact sto_9 h ho hv hc (by omega)
 ·rename_i k1 k2 k3 k4 k5 k6 k7 k8 k9
  rw [SAns.lim_ne (by omega)];cases hd;by_cases k10:v.kind=10
  ·exact sto_10 h ho hv hc k10
  by_cases k11:v.kind=11
  ·exact sto_11 h ho hv hc k11
  ·exact sto_0 h ho hv hc (by omega)
end
end Go.Proofs.YtmagnkjodjmojaaGreat
