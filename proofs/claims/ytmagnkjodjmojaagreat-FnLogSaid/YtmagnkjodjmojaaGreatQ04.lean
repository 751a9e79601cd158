/- A part of the proof of FnLog: laws and walks, with their conditions written at each. -/
import Derived.Test.YtmagnkjodjmojaaGreatQ01
import Derived.Test.YtmagnkjodjmojaaGreatQ03
set_option maxRecDepth 20000
set_option maxHeartbeats 4000000
set_option linter.all false
namespace Go.Proofs.YtmagnkjodjmojaaGreat
open Go.RowKit
structure SnV where
 data:ByteArray
 index:Int
 term:Int
 cf:CfV
structure SnV.Rd (N:Nat) (w:World) (v:SnV) (s:Snap):Prop where
 data:v.data=s.data
 index:v.index=s.index
 term:v.term=s.term
 cf:v.cf.Rd N w s.cf
 d:s.data.size≤200
theorem SnV.Rd.fr {N:Nat} {w w':World} {v:SnV} {s:Snap} (h:v.Rd N w s) (hf:Fr N w w'):v.Rd N w' s:=⟨h.data,h.index,h.term,h.cf.fr hf,h.d⟩
theorem CfV.Rd.small {N:Nat} {w:World} {v:CfV} {c:Conf} (h:v.Rd N w c):c.small:=
 ⟨by have:=h.vo.len;have:=h.n1;omega,by have:=h.le.len;have:=h.n2;omega,by have:=h.ou.len;have:=h.n3;omega,by have:=h.ne.len;have:=h.n4;omega⟩
theorem SnV.Rd.small {N:Nat} {w:World} {v:SnV} {s:Snap} (h:v.Rd N w s):s.small:=⟨h.cf.small,h.d⟩
def SnV.cells (v:SnV):Array Value:=#[.string v.data,.int .u64 v.index,.int .u64 v.term,.slice v.cf.vo.A v.cf.vo.n v.cf.vo.c,.slice v.cf.le.A v.cf.le.n v.cf.le.c,.slice v.cf.ou.A v.cf.ou.n v.cf.ou.c,.slice v.cf.ne.A v.cf.ne.n v.cf.ne.c,.bool v.cf.auto]
theorem snapTo (N:Nat) (v:SnV) (s:Snap) (w:World) (h:v.Rd N w s) (hN:N≤w.heap.size):
  Calls Tryz.prog 104 #[.agg #[.string v.data,.int .u64 v.index,.int .u64 v.term,.slice v.cf.vo.A v.cf.vo.n v.cf.vo.c,.slice v.cf.le.A v.cf.le.n v.cf.le.c,.slice v.cf.ou.A v.cf.ou.n v.cf.ou.c,.slice v.cf.ne.A v.cf.ne.n v.cf.ne.c,.bool v.cf.auto]] w
   fun r w'=>∃q m,r=.returned (.pointer (some ⟨q,0,none⟩))∧Kf N w' q m s∧Upd No w w'∧w.heap.size≤q∧w.heap.size≤m:=by
 have H:=qq h;clear h;go_enter Tryz.func104,Tryz.ntmps104;go_wp2_with fail
 go_region_held3 (fun w'=>w'.cell? ⟨w.heap.size,0,none⟩=some (.string v.data)∧w'.cell? ⟨w.heap.size,1,none⟩=some (.int .u64 v.index)∧w'.cell? ⟨w.heap.size,2,none⟩=some (.int .u64 v.term)∧w'.cell? ⟨w.heap.size,3,none⟩=some v.cf.vo.v∧w'.cell? ⟨w.heap.size,4,none⟩=some v.cf.le.v∧w'.cell? ⟨w.heap.size,5,none⟩=some v.cf.ou.v∧w'.cell? ⟨w.heap.size,6,none⟩=some v.cf.ne.v∧w'.cell? ⟨w.heap.size,7,none⟩=some (.bool v.cf.auto)∧Upd No w w')
  (first
   |(with_reducible exact ⟨by simp [go_sem],by simp [go_sem],by simp [go_sem],by simp [go_sem],by simp [go_sem],by simp [go_sem],by simp [go_sem],by simp [go_sem],((Upd.refl No w).alloc _).drew⟩)
   |(obtain ⟨g0,g1,g2,g3,g4,g5,g6,g7,gU⟩:=‹_=_∧_=_∧_=_∧_=_∧_=_∧_=_∧_=_∧_=_∧Upd No w _›;with_reducible exact ⟨((Upd.refl No _).alloc _).cell g0 (fun h=>h),((Upd.refl No _).alloc _).cell g1 (fun h=>h),((Upd.refl No _).alloc _).cell g2 (fun h=>h),((Upd.refl No _).alloc _).cell g3 (fun h=>h),((Upd.refl No _).alloc _).cell g4 (fun h=>h),((Upd.refl No _).alloc _).cell g5 (fun h=>h),((Upd.refl No _).alloc _).cell g6 (fun h=>h),((Upd.refl No _).alloc _).cell g7 (fun h=>h),gU.no ((Upd.refl No _).alloc _)⟩)
   |(with_reducible exact ⟨u1.cell g0 (fun h=>h),u1.cell g1 (fun h=>h),u1.cell g2 (fun h=>h),u1.cell g3 (fun h=>h),u1.cell g4 (fun h=>h),u1.cell g5 (fun h=>h),u1.cell g6 (fun h=>h),u1.cell g7 (fun h=>h),gU.no u1⟩)
   |(with_reducible exact ⟨u2.cell g0 (fun h=>h),u2.cell g1 (fun h=>h),u2.cell g2 (fun h=>h),u2.cell g3 (fun h=>h),u2.cell g4 (fun h=>h),u2.cell g5 (fun h=>h),u2.cell g6 (fun h=>h),u2.cell g7 (fun h=>h),gU.no u2⟩))
  (first
   |(go_at_call 127;obtain ⟨g0,g1,g2,g3,g4,g5,g6,g7,gU⟩:=‹_=_∧_=_∧_=_∧_=_∧_=_∧_=_∧_=_∧_=_∧Upd No w _›
     first
      |((with_reducible refine (bytesOf N v.data _).mono ?_);rintro r w1 ⟨t1,rfl,r1,n1,m1,u1⟩))
   |(go_at_call 126;obtain ⟨g0,g1,g2,g3,g4,g5,g6,g7,gU⟩:=‹_=_∧_=_∧_=_∧_=_∧_=_∧_=_∧_=_∧_=_∧Upd No w _›
     first
      |((with_reducible refine (confTo N v.cf s.cf _ (H.out.cf.fr gU.fr0) (Nat.le_trans hN gU.size)).mono ?_);rintro r w2 ⟨q2,rfl,r2,u2⟩)))
 go_wp2;go_ret;have f2:=u2.fr0 (N:=N);have hu:=(((((Upd.refl No w).alloc (.cells #[.string v.data,.int .u64 v.index,.int .u64 v.term,v.cf.vo.v,v.cf.le.v,v.cf.ou.v,v.cf.ne.v,.bool v.cf.auto] 39)).drew.no u1).no u2));have e2:=hu.size;have u3:Upd No w2 ((((w2.alloc (.cells #[.int .u64 v.index] 23)).alloc (.cells #[.int .u64 v.term] 23)).alloc (.cells #[pp q2,pp w2.heap.size,pp (w2.heap.size+1)] 235)).alloc (.cells #[t1.v,pp (w2.heap.size+1+1)] 189)):=((((Upd.refl No w2).alloc _).alloc _).alloc _).alloc _;have f3:=u3.fr0 (N:=N);refine ⟨_,_,rfl,⟨t1,q2,w2.heap.size,w2.heap.size+1,Blk.new_ (by simp),(Blk.new_ (by simp)).alloc _,?_,r2.fr f3,?_,?_,by omega,by omega,m1⟩,hu.no u3,by omega,by omega⟩
 ·rw [←H.out.data];exact r1.fr (f2.trans f3)
 ·rw [←H.out.index];exact (((Blk.new_ rfl).alloc _).alloc _).alloc _
 ·rw [←H.out.term];exact ((Blk.new_ (by simp)).alloc _).alloc _
def SnapRet (N:Nat) (s:Snap) (w:World) (e:Ending) (w':World):Prop:=
 ∃v:SnV,e=.returned (.agg #[.string v.data,.int .u64 v.index,.int .u64 v.term,.slice v.cf.vo.A v.cf.vo.n v.cf.vo.c,.slice v.cf.le.A v.cf.le.n v.cf.le.c,.slice v.cf.ou.A v.cf.ou.n v.cf.ou.c,.slice v.cf.ne.A v.cf.ne.n v.cf.ne.c,.bool v.cf.auto])∧v.Rd N w' s∧Upd No w w'
theorem conv_nil (w:World):(convert 125 9 (.slice none 0 0)).run Tryz.prog w=.ok (.string ⟨#[]⟩) w:=run_convert_bytes_nil w 125 5 Tryz.underlying125 Tryz.underlying5 0 0 9 Tryz.underlying9
theorem snapFrom (N:Nat) (sn md:Nat) (s:Snap) (w:World) (hN:N≤w.heap.size) (h:Kf N w sn md s) (hsm:s.small):
  Calls Tryz.prog 106 #[.pointer (some ⟨sn,0,none⟩)] w (SnapRet N s w):=by
 obtain ⟨ds,cf,ix,tm,hb,hm,hd,hc,hi,ht,hn,hn',kd⟩:=h;obtain ⟨hs,hds⟩:=hsm;have HD:=qq hd;have HC:=qq hc;have hm1:OptInt w 23 .u64 (some ⟨ix,0,none⟩) s.index:=.inr ⟨_,rfl,hi⟩;have hm2:OptInt w 23 .u64 (some ⟨tm,0,none⟩) s.term:=.inr ⟨_,rfl,ht⟩;clear kd hd hc hi ht;go_enter Tryz.func106,Tryz.ntmps106;go_wp2_with fail
 have u0:Upd No w (w.alloc (.cells #[.string ⟨#[]⟩,.int .u64 0,.int .u64 0,.slice none 0 0,.slice none 0 0,.slice none 0 0,.slice none 0 0,.bool false] 39)):=(Upd.refl No w).alloc _;refine (snap_meta (hb.upd u0 (fun h=>h))).mono ?_;rintro r w' ⟨rfl,rfl⟩;go_wp2_with fail
 go_region_held3 (fun w'=>(convert 125 9 ds.v).run Tryz.prog w'=.ok (.string s.data) w'∧Upd No w w')
  (first
   |(with_reducible exact ⟨conv_bytes (HD.out.fr u0.drew.fr0),u0.drew⟩)
   |(with_reducible exact ⟨conv_bytes (HD.out.fr (gU.no u1).fr0),gU.no u1⟩)
   |(with_reducible exact ⟨conv_bytes (HD.out.fr ((((((((((gU.no u1).setCell (.inr (Nat.le_refl _)) _).setCell (.inr (Nat.le_refl _)) _).setCell (.inr (Nat.le_refl _)) _).setCell (.inr (Nat.le_refl _)) _).setCell (.inr (Nat.le_refl _)) _).setCell (.inr (Nat.le_refl _)) _).setCell (.inr (Nat.le_refl _)) _).setCell (.inr (Nat.le_refl _)) _)).fr0),(((((((((gU.no u1).setCell (.inr (Nat.le_refl _)) _).setCell (.inr (Nat.le_refl _)) _).setCell (.inr (Nat.le_refl _)) _).setCell (.inr (Nat.le_refl _)) _).setCell (.inr (Nat.le_refl _)) _).setCell (.inr (Nat.le_refl _)) _).setCell (.inr (Nat.le_refl _)) _).setCell (.inr (Nat.le_refl _)) _)⟩))
  (first
   |(go_at_call 174;obtain ⟨g0,gU⟩:=‹_=_∧Upd No w _›
     first
      |((with_reducible refine (snap_data (hb.upd gU (fun h=>h))).mono ?_);rintro r w' ⟨rfl,rfl⟩))
   |(go_at_call 175;obtain ⟨g0,gU⟩:=‹_=_∧Upd No w _›
     first
      |((with_reducible refine (meta_index (hm.upd gU (fun h=>h)) (hm1.fr (gU.fr0 (N:=N)) rfl)).mono ?_);rintro r w' ⟨rfl,rfl⟩))
   |(go_at_call 176;obtain ⟨g0,gU⟩:=‹_=_∧Upd No w _›
     first
      |((with_reducible refine (meta_term (hm.upd gU (fun h=>h)) (hm2.fr (gU.fr0 (N:=N)) rfl)).mono ?_);rintro r w' ⟨rfl,rfl⟩))
   |(go_at_call 177;obtain ⟨g0,gU⟩:=‹_=_∧Upd No w _›
     first
      |((with_reducible refine (meta_conf (hm.upd gU (fun h=>h))).mono ?_);rintro r w' ⟨rfl,rfl⟩))
   |(go_at_call 138;obtain ⟨g0,gU⟩:=‹_=_∧Upd No w _›
     first
      |((with_reducible refine (confFrom N cf s.cf _ (Nat.le_trans hN gU.size) (HC.out.fr gU.fr0) hs).mono ?_);rintro r w1 ⟨v1,rfl,r1,u1⟩;have zb:Blk w1 w.heap.size 39 #[.string ⟨#[]⟩,.int .u64 0,.int .u64 0,.slice none 0 0,.slice none 0 0,.slice none 0 0,.slice none 0 0,.bool false]:=(Blk.new_ rfl).drew.upd u1 (fun h=>h);have z0:w1.cell? ⟨w.heap.size,0,none⟩=some (.string ⟨#[]⟩):=zb.cell 0;have y0:w1.frozen? ⟨w.heap.size,0,none⟩=false:=zb.frozen 0;have z1:w1.cell? ⟨w.heap.size,1,none⟩=some (.int .u64 0):=zb.cell 1;have y1:w1.frozen? ⟨w.heap.size,1,none⟩=false:=zb.frozen 1;have z2:w1.cell? ⟨w.heap.size,2,none⟩=some (.int .u64 0):=zb.cell 2;have y2:w1.frozen? ⟨w.heap.size,2,none⟩=false:=zb.frozen 2;have z3:w1.cell? ⟨w.heap.size,3,none⟩=some (.slice none 0 0):=zb.cell 3;have y3:w1.frozen? ⟨w.heap.size,3,none⟩=false:=zb.frozen 3;have z4:w1.cell? ⟨w.heap.size,4,none⟩=some (.slice none 0 0):=zb.cell 4;have y4:w1.frozen? ⟨w.heap.size,4,none⟩=false:=zb.frozen 4;have z5:w1.cell? ⟨w.heap.size,5,none⟩=some (.slice none 0 0):=zb.cell 5;have y5:w1.frozen? ⟨w.heap.size,5,none⟩=false:=zb.frozen 5;have z6:w1.cell? ⟨w.heap.size,6,none⟩=some (.slice none 0 0):=zb.cell 6;have y6:w1.frozen? ⟨w.heap.size,6,none⟩=false:=zb.frozen 6;have z7:w1.cell? ⟨w.heap.size,7,none⟩=some (.bool false):=zb.cell 7;have y7:w1.frozen? ⟨w.heap.size,7,none⟩=false:=zb.frozen 7;have ZB:=qq zb;clear zb)))
 go_wp2;refine bodyPost_ret (v:=.agg #[.string s.data,.int .u64 s.index,.int .u64 s.term,v1.vo.v,v1.le.v,v1.ou.v,v1.ne.v,.bool v1.auto]) (by simp [results,Tryz.results106,go_sem,z0,z1,z2,z3,z4,z5,z6,z7]) rfl ?_;have us:=((((((((Upd.refl (fun k=>k=w.heap.size) w1).setCell (a:=⟨w.heap.size,0,none⟩) (.inl rfl) (.string s.data)).setCell (a:=⟨w.heap.size,1,none⟩) (.inl rfl) (.int .u64 s.index)).setCell (a:=⟨w.heap.size,2,none⟩) (.inl rfl) (.int .u64 s.term)).setCell (a:=⟨w.heap.size,3,none⟩) (.inl rfl) v1.vo.v).setCell (a:=⟨w.heap.size,4,none⟩) (.inl rfl) v1.le.v).setCell (a:=⟨w.heap.size,5,none⟩) (.inl rfl) v1.ou.v).setCell (a:=⟨w.heap.size,6,none⟩) (.inl rfl) v1.ne.v).setCell (a:=⟨w.heap.size,7,none⟩) (.inl rfl) (.bool v1.auto);have hU:=(u0.drew.no u1).trans us (by rintro k rfl;exact .inr (Nat.le_refl _));have f1:=us.fr (N:=N) (by rintro k rfl;exact ZB.out.mutb hN rfl);exact ⟨⟨s.data,s.index,s.term,v1⟩,rfl,⟨rfl,rfl,rfl,r1.fr f1,hds⟩,hU⟩
theorem snapFrom_nil (N:Nat) (w:World) (hN:N≤w.heap.size):
  Calls Tryz.prog 106 #[.pointer none] w (SnapRet N Snap.zero w):=by
 go_enter Tryz.func106,Tryz.ntmps106;go_wp2_with fail
 have u0:Upd No w (w.alloc (.cells #[.string ⟨#[]⟩,.int .u64 0,.int .u64 0,.slice none 0 0,.slice none 0 0,.slice none 0 0,.slice none 0 0,.bool false] 39)):=(Upd.refl No w).alloc _;refine (snap_meta_nil _).mono ?_;rintro r w' ⟨rfl,rfl⟩;go_wp2_with fail
 go_region_held3 (fun w'=>(convert 125 9 (.slice none 0 0)).run Tryz.prog w'=.ok (.string ⟨#[]⟩) w'∧Upd No w w')
  (first
   |(with_reducible exact ⟨conv_nil _,u0.drew⟩)
   |(with_reducible exact ⟨conv_nil _,gU.no u1⟩)
   |(with_reducible exact ⟨conv_nil _,(((((((((gU.no u1).setCell (.inr (Nat.le_refl _)) _).setCell (.inr (Nat.le_refl _)) _).setCell (.inr (Nat.le_refl _)) _).setCell (.inr (Nat.le_refl _)) _).setCell (.inr (Nat.le_refl _)) _).setCell (.inr (Nat.le_refl _)) _).setCell (.inr (Nat.le_refl _)) _).setCell (.inr (Nat.le_refl _)) _)⟩))
  (first
   |(go_at_call 174;obtain ⟨g0,gU⟩:=‹_=_∧Upd No w _›
     first
      |((with_reducible refine (snap_data_nil _).mono ?_);rintro r w' ⟨rfl,rfl⟩))
   |(go_at_call 175;obtain ⟨g0,gU⟩:=‹_=_∧Upd No w _›
     first
      |((with_reducible refine (meta_index_nil _).mono ?_);rintro r w' ⟨rfl,rfl⟩))
   |(go_at_call 176;obtain ⟨g0,gU⟩:=‹_=_∧Upd No w _›
     first
      |((with_reducible refine (meta_term_nil _).mono ?_);rintro r w' ⟨rfl,rfl⟩))
   |(go_at_call 177;obtain ⟨g0,gU⟩:=‹_=_∧Upd No w _›
     first
      |((with_reducible refine (meta_conf_nil _).mono ?_);rintro r w' ⟨rfl,rfl⟩))
   |(go_at_call 138;obtain ⟨g0,gU⟩:=‹_=_∧Upd No w _›
     first
      |((with_reducible refine (confFrom_nil N _ (Nat.le_trans hN gU.size)).mono ?_);rintro r w1 ⟨v1,rfl,r1,u1⟩;have zb:Blk w1 w.heap.size 39 #[.string ⟨#[]⟩,.int .u64 0,.int .u64 0,.slice none 0 0,.slice none 0 0,.slice none 0 0,.slice none 0 0,.bool false]:=(Blk.new_ rfl).drew.upd u1 (fun h=>h);have z0:w1.cell? ⟨w.heap.size,0,none⟩=some (.string ⟨#[]⟩):=zb.cell 0;have y0:w1.frozen? ⟨w.heap.size,0,none⟩=false:=zb.frozen 0;have z1:w1.cell? ⟨w.heap.size,1,none⟩=some (.int .u64 0):=zb.cell 1;have y1:w1.frozen? ⟨w.heap.size,1,none⟩=false:=zb.frozen 1;have z2:w1.cell? ⟨w.heap.size,2,none⟩=some (.int .u64 0):=zb.cell 2;have y2:w1.frozen? ⟨w.heap.size,2,none⟩=false:=zb.frozen 2;have z3:w1.cell? ⟨w.heap.size,3,none⟩=some (.slice none 0 0):=zb.cell 3;have y3:w1.frozen? ⟨w.heap.size,3,none⟩=false:=zb.frozen 3;have z4:w1.cell? ⟨w.heap.size,4,none⟩=some (.slice none 0 0):=zb.cell 4;have y4:w1.frozen? ⟨w.heap.size,4,none⟩=false:=zb.frozen 4;have z5:w1.cell? ⟨w.heap.size,5,none⟩=some (.slice none 0 0):=zb.cell 5;have y5:w1.frozen? ⟨w.heap.size,5,none⟩=false:=zb.frozen 5;have z6:w1.cell? ⟨w.heap.size,6,none⟩=some (.slice none 0 0):=zb.cell 6;have y6:w1.frozen? ⟨w.heap.size,6,none⟩=false:=zb.frozen 6;have z7:w1.cell? ⟨w.heap.size,7,none⟩=some (.bool false):=zb.cell 7;have y7:w1.frozen? ⟨w.heap.size,7,none⟩=false:=zb.frozen 7;have ZB:=qq zb;clear zb)))
 go_wp2;refine bodyPost_ret (v:=.agg #[.string ⟨#[]⟩,.int .u64 0,.int .u64 0,v1.vo.v,v1.le.v,v1.ou.v,v1.ne.v,.bool v1.auto]) (by simp [results,Tryz.results106,go_sem,z0,z1,z2,z3,z4,z5,z6,z7]) rfl ?_;have us:=((((((((Upd.refl (fun k=>k=w.heap.size) w1).setCell (a:=⟨w.heap.size,0,none⟩) (.inl rfl) (.string ⟨#[]⟩)).setCell (a:=⟨w.heap.size,1,none⟩) (.inl rfl) (.int .u64 0)).setCell (a:=⟨w.heap.size,2,none⟩) (.inl rfl) (.int .u64 0)).setCell (a:=⟨w.heap.size,3,none⟩) (.inl rfl) v1.vo.v).setCell (a:=⟨w.heap.size,4,none⟩) (.inl rfl) v1.le.v).setCell (a:=⟨w.heap.size,5,none⟩) (.inl rfl) v1.ou.v).setCell (a:=⟨w.heap.size,6,none⟩) (.inl rfl) v1.ne.v).setCell (a:=⟨w.heap.size,7,none⟩) (.inl rfl) (.bool v1.auto);have hU:=(u0.drew.no u1).trans us (by rintro k rfl;exact .inr (Nat.le_refl _));have f1:=us.fr (N:=N) (by rintro k rfl;exact ZB.out.mutb hN rfl);exact ⟨⟨⟨#[]⟩,0,0,v1⟩,rfl,⟨rfl,rfl,rfl,r1.fr f1,by decide⟩,hU⟩
structure StL where
 snap:Snap
 atT:Int
 atI:Int
 L:List Ent
structure TlL where
 snap:Snap
 has:Bool
 es:List Ent
 off:Int
 going:Bool
 till:Int
structure LgL where
 s:StL
 u:TlL
 com:Int
 apg:Int
 apd:Int
 size:Int
 usg:Int
 paused:Bool
def ent (l:List Ent) (i:Int):Ent:=l.getD i.toNat default
theorem ent_nat (l:List Ent) (j:Nat):ent l (j:Int)=l.getD j default:=by simp [ent]
def StL.first (s:StL):Int:=s.atI+1
def StL.last (s:StL):Int:=s.atI+s.L.length
def StL.term (s:StL) (i:Int):Int×Int:=
 if i<s.atI then (0,1) else if s.last<i then (0,3) else if i=s.atI then (s.atT,0) else ((ent s.L (i - s.first)).term,0)
def TlL.end_ (u:TlL):Int:=u.off+u.es.length
def TlL.term (u:TlL) (i:Int):Option Int:=
 if u.off≤i∧i<u.end_ then some (ent u.es (i - u.off)).term else if u.has=true∧u.snap.index=i∧i<u.off then some u.snap.term else none
def LgL.first (g:LgL):Int:=if g.u.has=true then g.u.snap.index+1 else g.s.first
def LgL.last (g:LgL):Int:=if g.u.es.length≠0 then g.u.end_ - 1 else if g.u.has=true then g.u.snap.index else g.s.last
def LgL.term (g:LgL) (i:Int):Int×Int:=
 match g.u.term i with
 |some t=>(t,0)
 |none=>if i+1<g.first then (0,1) else if g.last<i then (0,3) else g.s.term i
def LgL.matches (g:LgL) (t i:Int):Bool:=decide ((g.term i).2=0) && decide ((g.term i).1=t)
def LgL.most (g:LgL) (unstable:Bool):Int:=if unstable=true then g.com else min g.com (g.u.off - 1)
structure StL.Ok (s:StL):Prop where
 i0:0≤s.atI
 t0:0≤s.atT
 t1:s.atT<4611686018427387904
 last:s.last<4611686018427387904
 idx:∀j,j<s.L.length→(s.L.getD j default).index=s.atI+1+j
 ok:∀j,j<s.L.length→(s.L.getD j default).ok
 len:s.L.length≤20000
 cf:s.snap.cf.vo.length≤10∧s.snap.cf.le.length≤10∧s.snap.cf.ou.length≤10∧s.snap.cf.ne.length≤10
 d:s.snap.data.size≤200
 si:0≤s.snap.index
 si1:s.snap.index<4611686018427387904
 st:0≤s.snap.term
 st1:s.snap.term<4611686018427387904
 z:s.atI=0→s.atT=0
structure TlL.Ok (u:TlL):Prop where
 idx:∀j,j<u.es.length→(u.es.getD j default).index=u.off+j
 ok:∀j,j<u.es.length→(u.es.getD j default).ok
 len:u.es.length≤20000
 o1:1≤u.off
 o2:u.off≤4611686018427387904
 e2:u.end_≤4611686018427387904
 t1:u.off≤u.till
 t2:u.till≤u.end_
 hs:u.has=true→1≤u.snap.index∧u.snap.index+1=u.off∧0≤u.snap.term∧u.snap.term<4611686018427387904
 cf:u.snap.cf.vo.length≤10∧u.snap.cf.le.length≤10∧u.snap.cf.ou.length≤10∧u.snap.cf.ne.length≤10
 d:u.snap.data.size≤200
 ng:u.has=false→u.going=false
structure LgL.Ok (g:LgL):Prop where
 s:g.s.Ok
 u:g.u.Ok
 gap:g.u.has=false→g.u.off≤g.s.last+1∧g.s.first≤g.u.off∧(g.u.es.length=0→g.u.off=g.s.last+1)
 c1:g.com≤g.last
 c2:g.first≤g.com+1
 a0:0≤g.apd
 a1:g.apd≤g.apg
 a2:g.apg≤g.com
 z1:1≤g.size
 z2:g.size<4611686018427387904
 g0:0≤g.usg
 g2:g.usg<9223372036854775808
section
variable {g:LgL}
theorem LgL.Ok.last_lt (h:g.Ok):g.last≤4611686018427387904∧0≤g.last:=by
 have h1:=h.u.e2;have h2:=h.u.o1;have h3:=h.s.last;have h4:=h.s.i0;unfold LgL.last;unfold TlL.end_ at*;unfold StL.last at*;split
 ·omega
 split
 ·rename_i hh
  have:=h.u.hs hh
  have:=h.u.o2
  omega
 ·omega
theorem LgL.Ok.first_bd (h:g.Ok):1≤g.first∧g.first≤g.last+1:=by
 have h1:=h.u.e2;have h2:=h.u.o1;have h4:=h.s.i0;unfold LgL.first LgL.last;by_cases hh:g.u.has=true
 ·have h5:=h.u.hs hh;rw [if_pos hh];split
  ·unfold TlL.end_;omega
  ·omega
 ·rw [if_neg hh];have h6:=h.gap (by simpa using hh);unfold StL.first StL.last TlL.end_ at*;split
  ·omega
  ·omega
end
def logCells (ms:Nat) (up:Option Addr) (ue:SlV) (g:LgL):Array Value:=
 #[.iface 86 (.pointer (some ⟨ms,0,none⟩)),.pointer up,.slice ue.A ue.n ue.c,.int .u64 g.u.off,.bool g.u.going,.int .u64 g.u.till,.int .u64 g.com,.int .u64 g.apg,.int .u64 g.apd,.int .u64 g.size,.int .u64 g.usg,.bool g.paused]
def RdUs (N:Nat) (w:World) (up:Option Addr) (u:TlL):Prop:=
 (up=none∧u.has=false)∨∃sn md,up=some ⟨sn,0,none⟩∧u.has=true∧Kf N w sn md u.snap
theorem RdUs.index {N:Nat} {w:World} {sn:Nat} {u:TlL} (h:RdUs N w (some ⟨sn,0,none⟩) u):∃(md:Nat) (v0 v1 v2:Value) (ix tm:Option Addr),Blk w sn 189 #[v0,.pointer (some ⟨md,0,none⟩)]∧Blk w md 235 #[v1,.pointer ix,.pointer tm]∧OptInt w 23 .u64 ix u.snap.index∧OptInt w 23 .u64 tm u.snap.term∧u.has=true:=by
 rcases h with ⟨h,_⟩|⟨sn',md,h,hh,ds,cf,ix,tm,h1,h2,_,_,h3,h4,_⟩
 ·cases h
 ·cases h;exact ⟨md,_,_,.int .u64 0,_,_,h1,h2,.inr ⟨_,rfl,h3⟩,.inr ⟨_,rfl,h4⟩,hh⟩
def cutV (s:SlV) (a b:Nat):SlV:=if b=a then ⟨s.A,0,0⟩ else ⟨s.A.map (·.add a),b - a,b - a⟩
theorem getD_cut {α:Type} {l:List α} {d:α} {a b j:Nat} (h:j<b - a):((l.take b).drop a).getD j d=l.getD (a+j) d:=by
 simp only [List.getD_eq_getElem?_getD,List.getElem?_drop,List.getElem?_take];rw [if_pos (by omega)]
theorem PArr.cut {N:Nat} {w:World} {d:Nat} {s:SlV} {es:List Ent} (h:PArr N w d s es) {a b:Nat} (hab:a≤b) (hb:b≤s.n):PArr N w (d - a) (cutV s a b) ((es.take b).drop a):=by
 have hl:=h.len;unfold cutV;split
 ·refine ⟨by simp;omega,Nat.le_refl _,fun h=>absurd h (Nat.lt_irrefl 0)⟩
 ·refine ⟨by simp;omega,Nat.le_refl _,fun _=>?_⟩;obtain ⟨g,o,cs,hA,hB,ho,hN,hj⟩:=h.arr (by have:=h.cap;omega);refine ⟨g,o+a,cs,by rw [hA];simp [Addr.add_lit],hB,by have:=h.cap;simp only;omega,hN,fun j hj'=>?_⟩;simp only at hj';obtain ⟨p,hp,he⟩:=hj (a+j) (by omega);refine ⟨p,by rw [←hp];congr 1;omega,?_⟩;rw [getD_cut (by omega)];exact he.weak fun _=>by omega
theorem cutV_block {s:SlV} {a b:Nat} {g o:Nat} (h:(cutV s a b).A=some ⟨g,o,none⟩):∃o',s.A.map (·.block)=some g∧o'=o:=by
 refine ⟨o,?_,rfl⟩;unfold cutV at h;split at h
 ·simp only at h;rw [h];rfl
 ·simp only at h;rcases hA:s.A with _|ad
  ·rw [hA] at h;cases h
  ·rw [hA] at h;simp only [Option.map_some,Option.some.injEq] at h;have hb:=congrArg Addr.block h;have hz:(ad.add a).block=ad.block:=by unfold Addr.add;split<;>rfl
   rw [hz] at hb;simpa using hb
section
variable {N:Nat} {w:World} {l ms:Nat} {up:Option Addr} {ue:SlV} {g:LgL}
theorem maybeFirst_some {sn:Nat} (hb:Blk w l 214 (logCells ms (some ⟨sn,0,none⟩) ue g)) (hs:RdUs N w (some ⟨sn,0,none⟩) g.u) (ho:g.u.Ok):
  Calls Tryz.prog 208 #[.pointer (some ⟨l,1,none⟩)] w fun e w'=>e=.returned (.tuple #[.int .u64 (g.u.snap.index+1),.bool true])∧w=w':=by
 obtain ⟨md,v0,v1,_,ix,tm,h1,h2,h3,h4,hh⟩:=hs.index;have c1:w.cell? ⟨l,1,none⟩=some (pp sn):=hb.cell 1;have hr:=ho.hs hh;have o2:=ho.o2;obtain ⟨r1,r2,_⟩:=hr;have r3:g.u.snap.index<4611686018427387904:=by omega
 clear hb r2 hs ho hh;go_enter Tryz.func208,Tryz.ntmps208;go_wp2_with fail
 refine (snap_meta h1).mono ?_;rintro r w' ⟨rfl,rfl⟩;go_wp2_with fail
 refine (meta_index h2 h3).mono ?_;rintro r w' ⟨rfl,rfl⟩;go_wp2;go_ret2;exact ⟨rfl,rfl⟩
theorem maybeFirst_none (hb:Blk w l 214 (logCells ms none ue g)):
  Calls Tryz.prog 208 #[.pointer (some ⟨l,1,none⟩)] w fun e w'=>e=.returned (.tuple #[.int .u64 0,.bool false])∧w=w':=by
 have c1:w.cell? ⟨l,1,none⟩=some (.pointer none):=hb.cell 1;clear hb;go_enter Tryz.func208,Tryz.ntmps208;go_wp2;go_ret2;exact ⟨rfl,rfl⟩
theorem maybeLast_ents (hb:Blk w l 214 (logCells ms up ue g)) (hP:PArr N w 0 ue g.u.es) (ho:g.u.Ok) (hn:g.u.es.length≠0):
  Calls Tryz.prog 209 #[.pointer (some ⟨l,1,none⟩)] w fun e w'=>e=.returned (.tuple #[.int .u64 (g.u.end_ - 1),.bool true])∧w=w':=by
 have c2:w.cell? ⟨l,2,none⟩=some ue.v:=hb.cell 2;have c3:w.cell? ⟨l,3,none⟩=some (.int .u64 g.u.off):=hb.cell 3;have hl:=hP.len;have o1:=ho.o1;have o2:=ho.o2;have e2:=ho.e2;have hlen:=ho.len;have hE:g.u.end_ - 1=g.u.off+(ue.n:Int) - 1:=by unfold TlL.end_;omega
 have h0:((ue.n:Int) !=0)=true:=by rw [bne_iff_ne];omega
 have hun:ue.n≤20000:=by omega
 rw [hE];clear hb hP ho hn hl hE e2;go_enter Tryz.func209,Tryz.ntmps209;go_wp2;go_ret2;exact ⟨rfl,rfl⟩
theorem maybeLast_some {sn:Nat} (hb:Blk w l 214 (logCells ms (some ⟨sn,0,none⟩) ue g)) (hP:PArr N w 0 ue g.u.es) (hs:RdUs N w (some ⟨sn,0,none⟩) g.u) (hn:g.u.es.length=0):
  Calls Tryz.prog 209 #[.pointer (some ⟨l,1,none⟩)] w fun e w'=>e=.returned (.tuple #[.int .u64 g.u.snap.index,.bool true])∧w=w':=by
 obtain ⟨md,v0,v1,_,ix,tm,h1,h2,h3,h4,hh⟩:=hs.index;have c1:w.cell? ⟨l,1,none⟩=some (pp sn):=hb.cell 1;have hl:=hP.len;have c2:w.cell? ⟨l,2,none⟩=some (.slice ue.A 0 ue.c):=by rw [show (0:Nat)=ue.n from by omega];exact hb.cell 2
 clear hb hP hn hl hs hh;go_enter Tryz.func209,Tryz.ntmps209;go_wp2_with fail
 refine (snap_meta h1).mono ?_;rintro r w' ⟨rfl,rfl⟩;go_wp2_with fail
 refine (meta_index h2 h3).mono ?_;rintro r w' ⟨rfl,rfl⟩;go_wp2;go_ret2;exact ⟨rfl,rfl⟩
theorem maybeLast_none (hb:Blk w l 214 (logCells ms none ue g)) (hP:PArr N w 0 ue g.u.es) (hn:g.u.es.length=0):
  Calls Tryz.prog 209 #[.pointer (some ⟨l,1,none⟩)] w fun e w'=>e=.returned (.tuple #[.int .u64 0,.bool false])∧w=w':=by
 have c1:w.cell? ⟨l,1,none⟩=some (.pointer none):=hb.cell 1;have hl:=hP.len;have c2:w.cell? ⟨l,2,none⟩=some (.slice ue.A 0 ue.c):=by rw [show (0:Nat)=ue.n from by omega];exact hb.cell 2
 clear hb hP hn hl;go_enter Tryz.func209,Tryz.ntmps209;go_wp2;go_ret2;exact ⟨rfl,rfl⟩
theorem maybeTerm_snap {sn:Nat} {i:Int} (hb:Blk w l 214 (logCells ms (some ⟨sn,0,none⟩) ue g)) (hs:RdUs N w (some ⟨sn,0,none⟩) g.u) (hi:i<g.u.off) (he:g.u.snap.index=i):
  Calls Tryz.prog 203 #[.pointer (some ⟨l,1,none⟩),.int .u64 i] w fun e w'=>e=.returned (.tuple #[.int .u64 g.u.snap.term,.bool true])∧w=w':=by
 obtain ⟨md,v0,v1,_,ix,tm,h1,h2,h3,h4,hh⟩:=hs.index;have c1:w.cell? ⟨l,1,none⟩=some (pp sn):=hb.cell 1;have c3:w.cell? ⟨l,3,none⟩=some (.int .u64 g.u.off):=hb.cell 3;have hq:(g.u.snap.index==i)=true:=by rw [he];exact beq_self_eq_true i
 clear hb hs hh he;go_enter Tryz.func203,Tryz.ntmps203;go_wp2_with fail
 refine (snap_meta h1).mono ?_;rintro r w' ⟨rfl,rfl⟩;go_wp2_with fail
 refine (meta_index h2 h3).mono ?_;rintro r w' ⟨rfl,rfl⟩;go_wp2_with fail
 refine (snap_meta h1).mono ?_;rintro r w' ⟨rfl,rfl⟩;go_wp2_with fail
 refine (meta_term h2 h4).mono ?_;rintro r w' ⟨rfl,rfl⟩;go_wp2;go_ret2;exact ⟨rfl,rfl⟩
theorem maybeTerm_snap_no {sn:Nat} {i:Int} (hb:Blk w l 214 (logCells ms (some ⟨sn,0,none⟩) ue g)) (hs:RdUs N w (some ⟨sn,0,none⟩) g.u) (hi:i<g.u.off) (he:g.u.snap.index≠i):
  Calls Tryz.prog 203 #[.pointer (some ⟨l,1,none⟩),.int .u64 i] w fun e w'=>e=.returned (.tuple #[.int .u64 0,.bool false])∧w=w':=by
 obtain ⟨md,v0,v1,_,ix,tm,h1,h2,h3,h4,hh⟩:=hs.index;have c1:w.cell? ⟨l,1,none⟩=some (pp sn):=hb.cell 1;have c3:w.cell? ⟨l,3,none⟩=some (.int .u64 g.u.off):=hb.cell 3;have hq:(g.u.snap.index==i)=false:=beq_eq_false_iff_ne.2 he;clear hb hs hh he;go_enter Tryz.func203,Tryz.ntmps203;go_wp2_with fail
 refine (snap_meta h1).mono ?_;rintro r w' ⟨rfl,rfl⟩;go_wp2_with fail
 refine (meta_index h2 h3).mono ?_;rintro r w' ⟨rfl,rfl⟩;go_wp2;go_ret2;exact ⟨rfl,rfl⟩
theorem maybeTerm_none {i:Int} (hb:Blk w l 214 (logCells ms none ue g)) (hi:i<g.u.off):
  Calls Tryz.prog 203 #[.pointer (some ⟨l,1,none⟩),.int .u64 i] w fun e w'=>e=.returned (.tuple #[.int .u64 0,.bool false])∧w=w':=by
 have c1:w.cell? ⟨l,1,none⟩=some (.pointer none):=hb.cell 1;have c3:w.cell? ⟨l,3,none⟩=some (.int .u64 g.u.off):=hb.cell 3;clear hb;go_enter Tryz.func203,Tryz.ntmps203;go_wp2;go_ret2;exact ⟨rfl,rfl⟩
theorem maybeTerm_far {i x:Int} {b:Bool} (hb:Blk w l 214 (logCells ms up ue g)) (hi:g.u.off≤i)
  (hl:Calls Tryz.prog 209 #[.pointer (some ⟨l,1,none⟩)] w fun e w'=>e=.returned (.tuple #[.int .u64 x,.bool b])∧w=w') (hx:b=false∨x<i):
  Calls Tryz.prog 203 #[.pointer (some ⟨l,1,none⟩),.int .u64 i] w fun e w'=>e=.returned (.tuple #[.int .u64 0,.bool false])∧w=w':=by
 have c3:w.cell? ⟨l,3,none⟩=some (.int .u64 g.u.off):=hb.cell 3;have HL:=qq hl;clear hb hl;cases b with
 |false=>
  clear hx;go_enter Tryz.func203,Tryz.ntmps203;go_wp2_with fail
  refine HL.out.mono ?_;rintro r w' ⟨rfl,rfl⟩;go_wp2;go_ret2;exact ⟨rfl,rfl⟩
 |true=>
  have hx:x<i:=by simpa using hx
  go_enter Tryz.func203,Tryz.ntmps203;go_wp2_with fail
  refine HL.out.mono ?_;rintro r w' ⟨rfl,rfl⟩;go_wp2;go_ret2;exact ⟨rfl,rfl⟩
theorem maybeTerm_hit {i:Int} (hb:Blk w l 214 (logCells ms up ue g)) (hP:PArr N w 0 ue g.u.es) (ho:g.u.Ok) (h1:g.u.off≤i) (h2:i<g.u.end_):
  Calls Tryz.prog 203 #[.pointer (some ⟨l,1,none⟩),.int .u64 i] w fun e w'=>e=.returned (.tuple #[.int .u64 (ent g.u.es (i - g.u.off)).term,.bool true])∧∃n,w.drewN n=w':=by
 have hn:g.u.es.length≠0:=by unfold TlL.end_ at h2;omega
 have hl:=maybeLast_ents hb hP ho hn;have HL:=qq hl;have c2:w.cell? ⟨l,2,none⟩=some (.slice ue.A ue.n ue.c):=hb.cell 2;have c3:w.cell? ⟨l,3,none⟩=some (.int .u64 g.u.off):=hb.cell 3;have hlen:=hP.len;have o1:=ho.o1;have o2:=ho.o2;have e2:=ho.e2;obtain ⟨j,hj⟩:=Int.eq_ofNat_of_zero_le (show 0≤i - g.u.off by omega);obtain rfl:i=g.u.off+(j:Int):=by omega
 have hjn:j<ue.n:=by unfold TlL.end_ at h2;omega
 obtain ⟨b,o,p,hA,hc,hp⟩:=hP.at_ hjn;obtain ⟨tp,ip,ty,ds,q1,q2,_⟩:=hp;have hE:ent g.u.es (g.u.off+(j:Int) - g.u.off)=g.u.es.getD j default:=by rw [show g.u.off+(j:Int) - g.u.off=(j:Int) by omega,ent_nat]
 rw [hE];rw [hA] at c2;have j1:(0:Int)≤g.u.off+(j:Int) - g.u.off:=by omega
 have j2:g.u.off+(j:Int) - g.u.off<(ue.n:Int):=by omega
 have j3:(g.u.off+(j:Int) - g.u.off).toNat=j:=by omega
 have j4:IntKind.u64.wrap (g.u.off+(j:Int) - g.u.off)=g.u.off+(j:Int) - g.u.off:=by simp [IntKind.wrap_u64];omega
 clear hb hP ho hn hl hlen hj hA hE;go_enter Tryz.func203,Tryz.ntmps203;go_wp2_with fail
 refine HL.out.mono ?_;rintro r w' ⟨rfl,rfl⟩;go_wp2_with fail
 go_quiet ((go_at_call 149;exact Jj (ent_term q1 q2)))
 go_wp2;go_ret2;exact ⟨rfl,_,rfl⟩
theorem uCheck {lo hi:Int} (hb:Blk w l 214 (logCells ms up ue g)) (hP:PArr N w 0 ue g.u.es) (ho:g.u.Ok) (h1:g.u.off≤lo) (h2:lo≤hi) (h3:hi≤g.u.end_):
  Calls Tryz.prog 223 #[.pointer (some ⟨l,1,none⟩),.int .u64 lo,.int .u64 hi] w fun e w'=>e=.returned (.tuple #[])∧∃n,w.drewN n=w':=by
 have c2:w.cell? ⟨l,2,none⟩=some ue.v:=hb.cell 2;have c3:w.cell? ⟨l,3,none⟩=some (.int .u64 g.u.off):=hb.cell 3;have hl:=hP.len;have o1:=ho.o1;have o2:=ho.o2;have hlen:=ho.len;have hun:ue.n≤20000:=by omega
 have h3':hi≤g.u.off+(ue.n:Int):=by unfold TlL.end_ at h3;omega
 clear hb hP ho hl h3;go_enter Tryz.func223,Tryz.ntmps223;go_wp2_with fail
 go_quiet (fail)
 go_wp2;go_end0;exact ⟨rfl,_,rfl⟩
theorem uSlice {lo hi:Int} (hb:Blk w l 214 (logCells ms up ue g)) (hP:PArr N w 0 ue g.u.es) (ho:g.u.Ok) (h1:g.u.off≤lo) (h2:lo≤hi) (h3:hi≤g.u.end_):
  Calls Tryz.prog 205 #[.pointer (some ⟨l,1,none⟩),.int .u64 lo,.int .u64 hi] w fun e w'=>e=.returned (.slice (cutV ue (lo - g.u.off).toNat (hi - g.u.off).toNat).A (cutV ue (lo - g.u.off).toNat (hi - g.u.off).toNat).n (cutV ue (lo - g.u.off).toNat (hi - g.u.off).toNat).c)∧∃n,w.drewN n=w':=by
 have HC:=qq (uCheck hb hP ho h1 h2 h3);have c2:w.cell? ⟨l,2,none⟩=some ue.v:=hb.cell 2;have c3:w.cell? ⟨l,3,none⟩=some (.int .u64 g.u.off):=hb.cell 3;have hl:=hP.len;have hcap:=hP.cap;have o1:=ho.o1;have o2:=ho.o2;have hlen:=ho.len;have hun:ue.n≤20000:=by omega
 have h3':hi≤g.u.off+(ue.n:Int):=by unfold TlL.end_ at h3;omega
 have h4:hi≤g.u.off+(ue.c:Int):=by omega
 clear hb hP ho hl h3;go_enter Tryz.func205,Tryz.ntmps205;go_wp2_with fail
 refine HC.out.mono ?_;rintro r w' ⟨rfl,m,rfl⟩;go_wp2_with fail
 go_quiet (fail)
 go_wp2;all_goals
  go_ret;refine ⟨?_,_,rfl⟩;simp [cutV, *]
end
end Go.Proofs.YtmagnkjodjmojaaGreat
