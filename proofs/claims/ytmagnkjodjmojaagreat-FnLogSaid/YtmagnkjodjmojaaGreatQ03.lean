/- A part of the proof of FnLog: laws and walks, with their conditions written at each. -/
import Derived.Deep.RegionHeld3
import Derived.Laws.CopyOwn
import Derived.Deep.OwnRows
import Derived.Test.YtmagnkjodjmojaaGreatQ02
set_option maxRecDepth 20000
set_option maxHeartbeats 4000000
set_option linter.all false
namespace Go.Proofs.YtmagnkjodjmojaaGreat
open Go.RowKit
section
open Go.Deep
structure NumsRet (N:Nat) (xs:List Int) (w:World) (e:Ending) (w':World) (t:SlV):Prop where
 he:e=.returned (.slice t.A t.n t.c)
 rd:Jz N w' t xs
 nil2:t.A=none→t=⟨none,0,0⟩
 upd:Upd No w w'
theorem numbers (N:Nat) (s:SlV) (xs:List Int) (w:World) (h:Jz N w s xs) (hlen:s.n≤1000000):
  Calls Tryz.prog 191 #[.slice s.A s.n s.c] w fun e w'=>∃t,NumsRet N xs w e w' t:=by
 have H:=qq h;clear h;go_enter Tryz.func191,Tryz.ntmps191;go_wp2_with (at_builtin;refine app_src rfl (.const (.slice none 0 0)) (.tmp 3) 35 rfl w.heap.size 23 (.int .u64 0) 1 8 Tryz.underlying35 inf23 rfl (by omega) (.slice none 0 0) 0 [] rfl (World.ownsRow_nil _ _ _ _) s.A s.n s.c (numRow xs) rfl (by rw [numRow_length];have:=H.out.len;omega) H.out.src (numRow_one xs) (by simp only [maxLen];omega) (by omega) (Nat.le_refl _) ?_;intro v2 w2 ho2 hg2 hb2 hn2 hp2)
 go_ret;obtain ⟨t,rfl,h1,h2,h3⟩:=own_nums (xs:=xs) (by simpa using ho2) N;exact ⟨t,rfl,h2,h3,(Upd.refl No w).grown hg2 (fun k hk=>by simp [Value.ownBlock] at hk)⟩
structure CfV where
 vo:SlV
 le:SlV
 ou:SlV
 ne:SlV
 auto:Bool
structure CfV.Rd (N:Nat) (w:World) (v:CfV) (c:Conf):Prop where
 vo:Jz N w v.vo c.vo
 le:Jz N w v.le c.le
 ou:Jz N w v.ou c.ou
 ne:Jz N w v.ne c.ne
 auto:v.auto=c.auto
 n1:v.vo.n≤10
 n2:v.le.n≤10
 n3:v.ou.n≤10
 n4:v.ne.n≤10
theorem CfV.Rd.fr {N:Nat} {w w':World} {v:CfV} {c:Conf} (h:v.Rd N w c) (hf:Fr N w w'):v.Rd N w' c:=
 ⟨Jg.fr h.vo hf,Jg.fr h.le hf,Jg.fr h.ou hf,Jg.fr h.ne hf,h.auto,h.n1,h.n2,h.n3,h.n4⟩
theorem confTo (N:Nat) (v:CfV) (c:Conf) (w:World) (h:v.Rd N w c) (hN:N≤w.heap.size):
  Calls Tryz.prog 126 #[.agg #[.slice v.vo.A v.vo.n v.vo.c,.slice v.le.A v.le.n v.le.c,.slice v.ou.A v.ou.n v.ou.c,.slice v.ne.A v.ne.n v.ne.c,.bool v.auto]] w
   fun r w'=>∃p,r=.returned (.pointer (some ⟨p,0,none⟩))∧PbConf N w' p c∧Upd No w w':=by
 have H:=qq h;clear h;go_enter Tryz.func126,Tryz.ntmps126;go_wp2_with fail
 go_region_held3 (fun w'=>w'.cell? ⟨w.heap.size,0,none⟩=some v.vo.v∧w'.cell? ⟨w.heap.size,1,none⟩=some v.le.v∧
   w'.cell? ⟨w.heap.size,2,none⟩=some v.ou.v∧w'.cell? ⟨w.heap.size,3,none⟩=some v.ne.v∧w'.cell? ⟨w.heap.size,4,none⟩=some (.bool v.auto)∧w.heap.size<w'.heap.size∧Upd No w w')
  (first
   |(exact ⟨by simp [go_sem],by simp [go_sem],by simp [go_sem],by simp [go_sem],by simp [go_sem],by simp,((Upd.refl No w).alloc _).drew⟩)
   |(obtain ⟨g0,g1,g2,g3,g4,g5,g6⟩:=‹_∧_∧_∧_∧_∧_<_∧Upd No w _›;exact ⟨cell_alloc g0,cell_alloc g1,cell_alloc g2,cell_alloc g3,cell_alloc g4,lt_alloc g5,g6.alloc _⟩)
   |(exact ⟨u1.cell g0 (fun h=>h),u1.cell g1 (fun h=>h),u1.cell g2 (fun h=>h),u1.cell g3 (fun h=>h),u1.cell g4 (fun h=>h),Nat.lt_of_lt_of_le g5 u1.size,g6.no u1⟩)
   |(exact ⟨u2.cell g0 (fun h=>h),u2.cell g1 (fun h=>h),u2.cell g2 (fun h=>h),u2.cell g3 (fun h=>h),u2.cell g4 (fun h=>h),Nat.lt_of_lt_of_le g5 u2.size,g6.no u2⟩)
   |(exact ⟨u3.cell g0 (fun h=>h),u3.cell g1 (fun h=>h),u3.cell g2 (fun h=>h),u3.cell g3 (fun h=>h),u3.cell g4 (fun h=>h),Nat.lt_of_lt_of_le g5 u3.size,g6.no u3⟩)
   |(exact ⟨u4.cell g0 (fun h=>h),u4.cell g1 (fun h=>h),u4.cell g2 (fun h=>h),u4.cell g3 (fun h=>h),u4.cell g4 (fun h=>h),Nat.lt_of_lt_of_le g5 u4.size,g6.no u4⟩))
  ((go_at_call 191;obtain ⟨g0,g1,g2,g3,g4,g5,g6⟩:=‹_∧_∧_∧_∧_∧_<_∧Upd No w _›;first
    |(refine (numbers N v.vo c.vo _ (Jg.fr H.out.vo g6.fr0) (by have:=H.out.n1;omega)).mono ?_;rintro r w1 ⟨t1,rfl,r1,n1,u1⟩)
    |(refine (numbers N v.le c.le _ (Jg.fr H.out.le g6.fr0) (by have:=H.out.n2;omega)).mono ?_;rintro r w2 ⟨t2,rfl,r2,n2,u2⟩)
    |(refine (numbers N v.ou c.ou _ (Jg.fr H.out.ou g6.fr0) (by have:=H.out.n3;omega)).mono ?_;rintro r w3 ⟨t3,rfl,r3,n3,u3⟩)
    |(refine (numbers N v.ne c.ne _ (Jg.fr H.out.ne g6.fr0) (by have:=H.out.n4;omega)).mono ?_;rintro r w4 ⟨t4,rfl,r4,n4,u4⟩)))
 go_wp2;go_ret;have f1:=u1.fr0 (N:=N);have f2:=u2.fr0 (N:=N);have f3:=u3.fr0 (N:=N);have f4:=u4.fr0 (N:=N);have f5:=(((Upd.refl No w4).alloc (.cells #[.bool v.auto] 4)).alloc (.cells #[t1.v,t2.v,t3.v,t4.v,pp w4.heap.size] 245)).fr0 (N:=N);refine ⟨_,rfl,⟨t1,t2,t3,t4,_,Blk.new_ (by simp),Jg.fr r1 (f2.trans (f3.trans (f4.trans f5))),Jg.fr r2 (f3.trans (f4.trans f5)),Jg.fr r3 (f4.trans f5),Jg.fr r4 f5,.inr ⟨_,rfl,(by rw [←H.out.auto];exact (Blk.new _ _ _).alloc _)⟩,⟨_,rfl⟩,n1,n2,n3,n4⟩,?_⟩;exact (((((((Upd.refl No w).alloc _).drew).no u1).no u2).no u3).no u4).no (((Upd.refl No w4).alloc _).alloc _)
def Conf.small (c:Conf):Prop:=c.vo.length≤10∧c.le.length≤10∧c.ou.length≤10∧c.ne.length≤10
def ConfRet (N:Nat) (c:Conf) (w:World) (e:Ending) (w':World):Prop:=
 ∃v:CfV,e=.returned (.agg #[.slice v.vo.A v.vo.n v.vo.c,.slice v.le.A v.le.n v.le.c,.slice v.ou.A v.ou.n v.ou.c,.slice v.ne.A v.ne.n v.ne.c,.bool v.auto])∧v.Rd N w' c∧Upd No w w'
theorem confFrom (N:Nat) (p:Nat) (c:Conf) (w:World) (hNN:N≤w.heap.size) (h:PbConf N w p c) (hs:c.small):
  Calls Tryz.prog 138 #[.pointer (some ⟨p,0,none⟩)] w (ConfRet N c w):=by
 obtain ⟨s1,s2,s3,s4,ap,hb,h1,h2,h3,h4,h5,_⟩:=h;have l1:s1.n≤10:=by have:=h1.len;have:=hs.1;omega
 have l2:s2.n≤10:=by have:=h2.len;have:=hs.2.1;omega
 have l3:s3.n≤10:=by have:=h3.len;have:=hs.2.2.1;omega
 have l4:s4.n≤10:=by have:=h4.len;have:=hs.2.2.2;omega
 go_enter Tryz.func138,Tryz.ntmps138;go_wp2_with fail
 have z:Blk (w.alloc (.cells #[.slice none 0 0,.slice none 0 0,.slice none 0 0,.slice none 0 0,.bool false] 37)) w.heap.size 37 #[.slice none 0 0,.slice none 0 0,.slice none 0 0,.slice none 0 0,.bool false]:=Blk.new_ rfl;have u0:Upd No w (w.alloc (.cells #[.slice none 0 0,.slice none 0 0,.slice none 0 0,.slice none 0 0,.bool false] 37)):=(Upd.refl No w).alloc _;refine (conf_vo (hb.upd u0 (fun h=>h))).mono ?_;rintro r w' ⟨rfl,rfl⟩;go_wp2_with fail
 refine (numbers N s1 c.vo _ (Jg.fr h1 u0.fr0) (by omega)).mono ?_;rintro r w1 ⟨t1,rfl,r1,n1,v1⟩;have u1:=u0.no v1;replace z:=z.upd v1 (fun h=>h);go_wp2_with fail
 refine (conf_le (hb.upd u1 (fun h=>h))).mono ?_;rintro r w' ⟨rfl,rfl⟩;go_wp2_with fail
 refine (numbers N s2 c.le _ (Jg.fr h2 u1.fr0) (by omega)).mono ?_;rintro r w2 ⟨t2,rfl,r2,n2,v2⟩;have u2:=u1.no v2;replace z:=z.upd v2 (fun h=>h);go_wp2_with fail
 refine (conf_ou (hb.upd u2 (fun h=>h))).mono ?_;rintro r w' ⟨rfl,rfl⟩;go_wp2_with fail
 refine (numbers N s3 c.ou _ (Jg.fr h3 u2.fr0) (by omega)).mono ?_;rintro r w3 ⟨t3,rfl,r3,n3,v3⟩;have u3:=u2.no v3;replace z:=z.upd v3 (fun h=>h);go_wp2_with fail
 refine (conf_ne (hb.upd u3 (fun h=>h))).mono ?_;rintro r w' ⟨rfl,rfl⟩;go_wp2_with fail
 refine (numbers N s4 c.ne _ (Jg.fr h4 u3.fr0) (by omega)).mono ?_;rintro r w4 ⟨t4,rfl,r4,n4,v4⟩;have u4:=u3.no v4;replace z:=z.upd v4 (fun h=>h);go_wp2_with fail
 refine (conf_auto (hb.upd u4 (fun h=>h)) (h5.fr (u4.fr0 (N:=N)))).mono ?_;rintro r w' ⟨rfl,rfl⟩;have z0:w4.cell? ⟨w.heap.size,0,none⟩=some (.slice none 0 0):=z.cell 0;have y0:w4.frozen? ⟨w.heap.size,0,none⟩=false:=z.frozen 0;have z1:w4.cell? ⟨w.heap.size,1,none⟩=some (.slice none 0 0):=z.cell 1;have y1:w4.frozen? ⟨w.heap.size,1,none⟩=false:=z.frozen 1;have z2:w4.cell? ⟨w.heap.size,2,none⟩=some (.slice none 0 0):=z.cell 2;have y2:w4.frozen? ⟨w.heap.size,2,none⟩=false:=z.frozen 2;have z3:w4.cell? ⟨w.heap.size,3,none⟩=some (.slice none 0 0):=z.cell 3;have y3:w4.frozen? ⟨w.heap.size,3,none⟩=false:=z.frozen 3;have z4:w4.cell? ⟨w.heap.size,4,none⟩=some (.bool false):=z.cell 4;have y4:w4.frozen? ⟨w.heap.size,4,none⟩=false:=z.frozen 4;clear hb h1 h2 h3 h4 h5 l1 l2 l3 l4;go_wp2;refine bodyPost_ret (v:=.agg #[t1.v,t2.v,t3.v,t4.v,.bool c.auto]) (by simp [results,Tryz.results138,go_sem,z0,z1,z2,z3,z4]) rfl ?_;have f2:=v2.fr0 (N:=N);have f3:=v3.fr0 (N:=N);have f4:=v4.fr0 (N:=N);have hl:w4.heap.size≤w4.heap.size:=Nat.le_refl _;have hN:w.heap.size≤w.heap.size:=Nat.le_refl _;have u5:Upd No w (((((w4.setCell ⟨w.heap.size,0,none⟩ t1.v).setCell ⟨w.heap.size,1,none⟩ t2.v).setCell ⟨w.heap.size,2,none⟩ t3.v).setCell ⟨w.heap.size,3,none⟩ t4.v).setCell ⟨w.heap.size,4,none⟩ (.bool c.auto)):=
  ((((u4.setCell (.inr hN) _).setCell (.inr hN) _).setCell (.inr hN) _).setCell (.inr hN) _).setCell (.inr hN) _
 have f5:Fr N w4 (((((w4.setCell ⟨w.heap.size,0,none⟩ t1.v).setCell ⟨w.heap.size,1,none⟩ t2.v).setCell ⟨w.heap.size,2,none⟩ t3.v).setCell ⟨w.heap.size,3,none⟩ t4.v).setCell ⟨w.heap.size,4,none⟩ (.bool c.auto)):=
  (((((Upd.refl (fun k=>k=w.heap.size) w4).setCell (.inl rfl) _).setCell (.inl rfl) _).setCell (.inl rfl) _).setCell (.inl rfl) _ |>.setCell (.inl rfl) _).fr (by rintro k rfl;exact z.mutb hNN rfl)
 exact ⟨⟨t1,t2,t3,t4,c.auto⟩,rfl,⟨Jg.fr r1 (f2.trans (f3.trans (f4.trans f5))),Jg.fr r2 (f3.trans (f4.trans f5)),Jg.fr r3 (f4.trans f5),Jg.fr r4 f5,rfl,by show t1.n≤10;have:=r1.len;have:=hs.1;omega,by show t2.n≤10;have:=r2.len;have:=hs.2.1;omega,by show t3.n≤10;have:=r3.len;have:=hs.2.2.1;omega,by show t4.n≤10;have:=r4.len;have:=hs.2.2.2;omega⟩,u5⟩
theorem confFrom_nil (N:Nat) (w:World) (hNN:N≤w.heap.size):
  Calls Tryz.prog 138 #[.pointer none] w (ConfRet N Conf.zero w):=by
 have hnil:∀w:World,Jz N w ⟨none,0,0⟩ []:=fun w=>Jg.nil none;have HN:=qq hnil;clear hnil;go_enter Tryz.func138,Tryz.ntmps138;go_wp2_with fail
 have z:Blk (w.alloc (.cells #[.slice none 0 0,.slice none 0 0,.slice none 0 0,.slice none 0 0,.bool false] 37)) w.heap.size 37 #[.slice none 0 0,.slice none 0 0,.slice none 0 0,.slice none 0 0,.bool false]:=Blk.new_ rfl;have u0:Upd No w (w.alloc (.cells #[.slice none 0 0,.slice none 0 0,.slice none 0 0,.slice none 0 0,.bool false] 37)):=(Upd.refl No w).alloc _;refine (conf_vo_nil _).mono ?_;rintro r w' ⟨rfl,rfl⟩;go_wp2_with fail
 refine (numbers N ⟨none,0,0⟩ [] _ (HN.out _) (by simp)).mono ?_;rintro r w1 ⟨t1,rfl,r1,n1,v1⟩;have u1:=u0.no v1;replace z:=z.upd v1 (fun h=>h);go_wp2_with fail
 refine (conf_le_nil _).mono ?_;rintro r w' ⟨rfl,rfl⟩;go_wp2_with fail
 refine (numbers N ⟨none,0,0⟩ [] _ (HN.out _) (by simp)).mono ?_;rintro r w2 ⟨t2,rfl,r2,n2,v2⟩;have u2:=u1.no v2;replace z:=z.upd v2 (fun h=>h);go_wp2_with fail
 refine (conf_ou_nil _).mono ?_;rintro r w' ⟨rfl,rfl⟩;go_wp2_with fail
 refine (numbers N ⟨none,0,0⟩ [] _ (HN.out _) (by simp)).mono ?_;rintro r w3 ⟨t3,rfl,r3,n3,v3⟩;have u3:=u2.no v3;replace z:=z.upd v3 (fun h=>h);go_wp2_with fail
 refine (conf_ne_nil _).mono ?_;rintro r w' ⟨rfl,rfl⟩;go_wp2_with fail
 refine (numbers N ⟨none,0,0⟩ [] _ (HN.out _) (by simp)).mono ?_;rintro r w4 ⟨t4,rfl,r4,n4,v4⟩;have u4:=u3.no v4;replace z:=z.upd v4 (fun h=>h);go_wp2_with fail
 refine (conf_auto_nil _).mono ?_;rintro r w' ⟨rfl,rfl⟩;have z0:w4.cell? ⟨w.heap.size,0,none⟩=some (.slice none 0 0):=z.cell 0;have y0:w4.frozen? ⟨w.heap.size,0,none⟩=false:=z.frozen 0;have z1:w4.cell? ⟨w.heap.size,1,none⟩=some (.slice none 0 0):=z.cell 1;have y1:w4.frozen? ⟨w.heap.size,1,none⟩=false:=z.frozen 1;have z2:w4.cell? ⟨w.heap.size,2,none⟩=some (.slice none 0 0):=z.cell 2;have y2:w4.frozen? ⟨w.heap.size,2,none⟩=false:=z.frozen 2;have z3:w4.cell? ⟨w.heap.size,3,none⟩=some (.slice none 0 0):=z.cell 3;have y3:w4.frozen? ⟨w.heap.size,3,none⟩=false:=z.frozen 3;have z4:w4.cell? ⟨w.heap.size,4,none⟩=some (.bool false):=z.cell 4;have y4:w4.frozen? ⟨w.heap.size,4,none⟩=false:=z.frozen 4;clear HN;go_wp2;refine bodyPost_ret (v:=.agg #[t1.v,t2.v,t3.v,t4.v,.bool false]) (by simp [results,Tryz.results138,go_sem,z0,z1,z2,z3,z4]) rfl ?_;have f2:=v2.fr0 (N:=N);have f3:=v3.fr0 (N:=N);have f4:=v4.fr0 (N:=N);have hl:w4.heap.size≤w4.heap.size:=Nat.le_refl _;have hN:w.heap.size≤w.heap.size:=Nat.le_refl _;have u5:Upd No w (((((w4.setCell ⟨w.heap.size,0,none⟩ t1.v).setCell ⟨w.heap.size,1,none⟩ t2.v).setCell ⟨w.heap.size,2,none⟩ t3.v).setCell ⟨w.heap.size,3,none⟩ t4.v).setCell ⟨w.heap.size,4,none⟩ (.bool false)):=
  ((((u4.setCell (.inr hN) _).setCell (.inr hN) _).setCell (.inr hN) _).setCell (.inr hN) _).setCell (.inr hN) _
 have f5:Fr N w4 (((((w4.setCell ⟨w.heap.size,0,none⟩ t1.v).setCell ⟨w.heap.size,1,none⟩ t2.v).setCell ⟨w.heap.size,2,none⟩ t3.v).setCell ⟨w.heap.size,3,none⟩ t4.v).setCell ⟨w.heap.size,4,none⟩ (.bool false)):=
  (((((Upd.refl (fun k=>k=w.heap.size) w4).setCell (.inl rfl) _).setCell (.inl rfl) _).setCell (.inl rfl) _).setCell (.inl rfl) _ |>.setCell (.inl rfl) _).fr (by rintro k rfl;exact z.mutb hNN rfl)
 exact ⟨⟨t1,t2,t3,t4,false⟩,rfl,⟨Jg.fr r1 (f2.trans (f3.trans (f4.trans f5))),Jg.fr r2 (f3.trans (f4.trans f5)),Jg.fr r3 (f4.trans f5),Jg.fr r4 f5,rfl,by show t1.n≤10;have:=r1.len;simp only [List.length_nil] at this;omega,by show t2.n≤10;have:=r2.len;simp only [List.length_nil] at this;omega,by show t3.n≤10;have:=r3.len;simp only [List.length_nil] at this;omega,by show t4.n≤10;have:=r4.len;simp only [List.length_nil] at this;omega⟩,u5⟩
theorem cell_alloc' {w:World} {o:Obj} {a:Addr} {v:Value} (h:w.cell? a=some v):(w.alloc o).cell? a=some v:=(World.cell?_alloc_lt w o a (World.block_lt_of_cell? w a h)).trans h
theorem splice_all {α:Type} (cur cs:List α) (h:cur.length=cs.length):splice cur 0 cs=cs:=by
 simp [splice,List.drop_of_length_le (show cur.length≤cs.length by omega)]
def byteRow (d:ByteArray):List Value:=d.data.toList.map fun b=>.int .u8 (b.toNat:Int)
theorem rd_filled {N:Nat} {w:World} {g n:Nat} {xs:List Int} (hl:xs.length=n) (hb:w.heap[g]? =some (.cells (numRow xs).toArray 23 (0,0))):Jz N w ⟨some ⟨g,0,none⟩,n,n⟩ xs:=
 ⟨hl,Nat.le_refl _,fun _=>⟨g,0,rfl,⟨(Array.getElem?_eq_some_iff.1 hb).1,.inr ⟨23,⟨_,_,hb⟩,rfl⟩⟩,fun j i hj hi=>by
  have:i=0:=by omega
  subst this;rw [cell_of_row w g _ _ 23 (0,0) hb];have:=numRow_at xs j (by simp only at hj;omega);simp only [List.getD_eq_getElem?_getD] at this ⊢;have hj':j<(numRow xs).length:=by rw [numRow_length];simp only at hj;omega
  simp only [Nat.zero_add,Nat.mul_one,Nat.add_zero,List.getElem?_toArray];rw [List.getElem?_eq_getElem hj'] at this ⊢
  simpa using this⟩⟩
theorem zzNumbers (N:Nat) (s:SlV) (xs:List Int) (w:World) (h:Jz N w s xs) (hlen:s.n≤1000000) (hn:s.A=none→s=⟨none,0,0⟩):
  Calls Tryz.prog 218 #[.slice s.A s.n s.c] w fun e w'=>∃t,NumsRet N xs w e w' t:=by
 have hl:xs.length=s.n:=h.len;rcases hA:s.A with _|ad
 ·have hs:=hn hA;have hx:xs=[]:=List.eq_nil_of_length_eq_zero (by rw [hl,hs]);subst hx;clear hl hn h hlen hs hA;go_enter Tryz.func218,Tryz.ntmps218;go_wp2;go_ret;exact ⟨⟨none,0,0⟩,rfl,Jg.nil none,fun _=>rfl,Upd.refl _ _⟩
 ·have hmk:=run_make_row' (P:=Tryz.prog) 35 23 (.int .u64 0) 8 Tryz.underlying35 inf23 rfl .i64 .i64 s.n (by omega) (by omega) w;have hsrc:=h.src;rw [hA] at hsrc;have H:=qq hsrc;have HL:=qq hl;clear hsrc hn h hA hl;go_enter Tryz.func218,Tryz.ntmps218;go_wp2_with (with_reducible refine wpList_copy_splice rfl (.tmp 9) (.tmp 10) 35 35 rfl 23 Tryz.underlying35 (by kernel_rfl) (some ⟨w.heap.size,0,none⟩) (some ad) s.n s.n s.n s.c rfl rfl w.heap.size 0 (madeCells #[.int .u64 0] s.n).toList 23 (by exact heap_alloc_new w _) (numRow xs) (by rw [numRow_length,HL.out];simp) ?hp ?hf (numRow_one xs) w.heap.size w ((Below.refl _ w).alloc (Nat.le_refl _) _) (Nat.le_refl _) ?hk)
  case hf=>simp [numRow_length,HL.out,size_madeCells]
  case hp=>
   intro hp;rw [numRow_length,HL.out] at hp;obtain ⟨ad',he,hc⟩:=H.out hp;cases he;exact fun j v hv=>cell_alloc' (hc j v hv)
  case hk=>
   intro w2 hb hbel;go_wp2;go_ret;have hb':=hb.out;rw [splice_all _ _ (by simp [numRow_length,HL.out,size_madeCells])] at hb';exact ⟨_,rfl,rd_filled HL.out hb',fun h=>(by cases h),Upd.ofBelow hbel⟩
theorem zzPtrU {w:World} {b:Nat} {n:Int} (h:Blk w b 23 #[.int .u64 n]):
  Calls Tryz.prog 225 #[.pointer (some ⟨b,0,none⟩)] w fun e w'=>∃p,e=.returned (.pointer (some ⟨p,0,none⟩))∧Blk w' p 23 #[.int .u64 n]∧Upd No w w':=by
 have h1:w.cell? ⟨b,0,none⟩=some (.int .u64 n):=h.cell 0;clear h;go_enter Tryz.func225,Tryz.ntmps225;go_wp2;go_ret;exact ⟨_,rfl,Blk.new _ _ _,(Upd.refl _ _).alloc _⟩
theorem zzPtrB {w:World} {b:Nat} {n:Bool} (h:Blk w b 4 #[.bool n]):
  Calls Tryz.prog 219 #[.pointer (some ⟨b,0,none⟩)] w fun e w'=>∃p,e=.returned (.pointer (some ⟨p,0,none⟩))∧Blk w' p 4 #[.bool n]∧Upd No w w':=by
 have h1:w.cell? ⟨b,0,none⟩=some (.bool n):=h.cell 0;clear h;go_enter Tryz.func219,Tryz.ntmps219;go_wp2;go_ret;exact ⟨_,rfl,Blk.new _ _ _,(Upd.refl _ _).alloc _⟩
theorem inf5:(Tryz.prog.info? 5).map (fun i=>(i.zero,i.size,i.bytes))=some (some (.int .u8 0),1,1):=by kernel_rfl
theorem byteRow_length (d:ByteArray):(byteRow d).length=d.size:=by
 simp [byteRow]
theorem byteRow_one (d:ByteArray):∀u∈byteRow d,u.oneCell'=true:=by
 intro u hu;simp only [byteRow,List.mem_map] at hu;obtain ⟨x,_,rfl⟩:=hu;rfl
theorem byteRow_at (d:ByteArray) (j:Nat) (hj:j<d.size):(byteRow d)[j]? =some (.int .u8 ((d.data.toList.getD j 0).toNat:Int)):=by
 have hj':j<d.data.toList.length:=by rw [Array.length_toList];exact hj
 simp [byteRow,List.getD_eq_getElem?_getD,List.getElem?_eq_getElem hj']
theorem RdBytes.src {N:Nat} {w:World} {s:SlV} {d:ByteArray} (h:RdBytes N w s d):0<s.n→∃ad,s.A=some ad∧∀j u,(byteRow d)[j]? =some u→w.cell? (ad.add j)=some u:=by
 intro hn;obtain ⟨b,o,ha,_,hc⟩:=h.1.at_ hn;refine ⟨_,ha,fun j u hu=>?_⟩;have hj:j<d.size:=by
  rcases Nat.lt_or_ge j d.size with h'|h'
  ·exact h'
  ·rw [List.getElem?_eq_none (by rw [byteRow_length];exact h')] at hu;cases hu
 rw [byteRow_at d j hj] at hu;injection hu with hu
 subst hu;have h1:=hc j 0 (by have:=h.1.len;omega) (by omega);rw [Addr.add_lit];simpa using h1
theorem rd_bytes_filled {N:Nat} {w:World} {g n:Nat} {d:ByteArray} (hl:d.size=n) (hn:n≠0) (hb:w.heap[g]? =some (.cells (byteRow d).toArray 5 (0,0))):RdBytes N w ⟨some ⟨g,0,none⟩,n,n⟩ d:=
 ⟨⟨hl,Nat.le_refl _,fun _=>⟨g,0,rfl,⟨(Array.getElem?_eq_some_iff.1 hb).1,.inr ⟨5,⟨_,_,hb⟩,rfl⟩⟩,fun j i hj hi=>by
  have:i=0:=by omega
  subst this;rw [cell_of_row w g _ _ 5 (0,0) hb];have:=byteRow_at d j (by simp only at hj;omega)
  simpa using this⟩⟩,fun h=>absurd h hn⟩
theorem zzBytes (N:Nat) (s:SlV) (d:ByteArray) (w:World) (h:RdBytes N w s d) (hlen:s.n≤1000000) (hn:s.A=none→s=⟨none,0,0⟩):
  Calls Tryz.prog 220 #[.slice s.A s.n s.c] w fun e w'=>∃t,BytesRet N d w e w' t:=by
 have hl:d.size=s.n:=h.1.len;rcases hA:s.A with _|ad
 ·have hs:=hn hA;have hx:d.size=0:=by rw [hl,hs]
  clear hl hn h hlen hs hA;have HX:=qq hx;clear hx;go_enter Tryz.func220,Tryz.ntmps220;go_wp2;go_ret;exact ⟨⟨none,0,0⟩,rfl,⟨⟨HX.out,Nat.le_refl _,fun h=>absurd h (by simp)⟩,fun _=>rfl⟩,by simp [HX.out],fun _=>rfl,Upd.refl _ _⟩
 ·have hne:s.n≠0:=fun h0=>by have:=h.2 h0;rw [hA] at this;cases this
  have hmk:=run_make_row' (P:=Tryz.prog) 125 5 (.int .u8 0) 1 Tryz.underlying125 inf5 rfl .i64 .i64 s.n (by omega) (by omega) w;have hsrc:=h.src;rw [hA] at hsrc;have H:=qq hsrc;have HL:=qq hl;have HNE:=qq hne;clear hsrc hn h hA hl hne;go_enter Tryz.func220,Tryz.ntmps220;go_wp2_with (with_reducible refine wpList_copy_splice rfl (.tmp 9) (.tmp 10) 125 125 rfl 5 Tryz.underlying125 (by kernel_rfl) (some ⟨w.heap.size,0,none⟩) (some ad) s.n s.n s.n s.c rfl rfl w.heap.size 0 (madeCells #[.int .u8 0] s.n).toList 5 (by exact heap_alloc_new w _) (byteRow d) (by rw [byteRow_length,HL.out];simp) ?hp ?hf (byteRow_one d) w.heap.size w ((Below.refl _ w).alloc (Nat.le_refl _) _) (Nat.le_refl _) ?hk)
  case hf=>simp [byteRow_length,HL.out,size_madeCells]
  case hp=>
   intro hp;rw [byteRow_length,HL.out] at hp;obtain ⟨ad',he,hc⟩:=H.out hp;cases he;exact fun j v hv=>cell_alloc' (hc j v hv)
  case hk=>
   intro w2 hb hbel;go_wp2;go_ret;have hb':=hb.out;rw [splice_all _ _ (by simp [byteRow_length,HL.out,size_madeCells])] at hb';exact ⟨_,rfl,rd_bytes_filled HL.out HNE.out hb',by simp [HL.out,HNE.out],fun h=>(by cases h),Upd.ofBelow hbel⟩
end
theorem confClone (N:Nat) (p:Nat) (c:Conf) (w:World) (h:PbConf N w p c) (hs:c.small):
  Calls Tryz.prog 189 #[.pointer (some ⟨p,0,none⟩)] w fun e w'=>∃q,e=.returned (.pointer (some ⟨q,0,none⟩))∧PbConf N w' q c∧Upd No w w':=by
 obtain ⟨s1,s2,s3,s4,ap,hb,h1,h2,h3,h4,h5,⟨b,rfl⟩,k1,k2,k3,k4⟩:=h;have l1:s1.n≤10:=by have:=h1.len;have:=hs.1;omega
 have l2:s2.n≤10:=by have:=h2.len;have:=hs.2.1;omega
 have l3:s3.n≤10:=by have:=h3.len;have:=hs.2.2.1;omega
 have l4:s4.n≤10:=by have:=h4.len;have:=hs.2.2.2;omega
 have hob:Blk w b 4 #[.bool c.auto]:=by
  rcases h5 with ⟨h5,_⟩|⟨b',h5,hb'⟩
  ·cases h5
  ·cases h5;exact hb'
 have z0:w.cell? ⟨p,0,none⟩=some s1.v:=hb.cell 0;have z1:w.cell? ⟨p,1,none⟩=some s2.v:=hb.cell 1;have z2:w.cell? ⟨p,2,none⟩=some s3.v:=hb.cell 2;have z3:w.cell? ⟨p,3,none⟩=some s4.v:=hb.cell 3;have z4:w.cell? ⟨p,4,none⟩=some (pp b):=hb.cell 4;clear h5 hs hb;have K1:=qq k1;have K2:=qq k2;have K3:=qq k3;have K4:=qq k4;clear k1 k2 k3 k4;go_enter Tryz.func189,Tryz.ntmps189;go_wp2_with fail
 go_region_held3 (fun w'=>w'.cell? ⟨p,0,none⟩=some s1.v∧w'.cell? ⟨p,1,none⟩=some s2.v∧w'.cell? ⟨p,2,none⟩=some s3.v∧w'.cell? ⟨p,3,none⟩=some s4.v∧w'.cell? ⟨p,4,none⟩=some (pp b)∧Upd No w w')
  (first
   |(exact ⟨z0,z1,z2,z3,z4,(Upd.refl No w).drew⟩)
   |(obtain ⟨g0,g1,g2,g3,g4,gU⟩:=‹_=_∧_=_∧_=_∧_=_∧_=_∧Upd No w _›;exact ⟨cell_alloc g0,cell_alloc g1,cell_alloc g2,cell_alloc g3,cell_alloc g4,gU.alloc _⟩)
   |(exact ⟨u1.cell g0 (fun h=>h),u1.cell g1 (fun h=>h),u1.cell g2 (fun h=>h),u1.cell g3 (fun h=>h),u1.cell g4 (fun h=>h),gU.no u1⟩)
   |(exact ⟨u2.cell g0 (fun h=>h),u2.cell g1 (fun h=>h),u2.cell g2 (fun h=>h),u2.cell g3 (fun h=>h),u2.cell g4 (fun h=>h),gU.no u2⟩)
   |(exact ⟨u3.cell g0 (fun h=>h),u3.cell g1 (fun h=>h),u3.cell g2 (fun h=>h),u3.cell g3 (fun h=>h),u3.cell g4 (fun h=>h),gU.no u3⟩)
   |(exact ⟨u4.cell g0 (fun h=>h),u4.cell g1 (fun h=>h),u4.cell g2 (fun h=>h),u4.cell g3 (fun h=>h),u4.cell g4 (fun h=>h),gU.no u4⟩)
   |(exact ⟨u5.cell g0 (fun h=>h),u5.cell g1 (fun h=>h),u5.cell g2 (fun h=>h),u5.cell g3 (fun h=>h),u5.cell g4 (fun h=>h),gU.no u5⟩))
  (first
   |(go_at_call 218;obtain ⟨g0,g1,g2,g3,g4,gU⟩:=‹_=_∧_=_∧_=_∧_=_∧_=_∧Upd No w _›
     first
      |((with_reducible refine (zzNumbers N s1 c.vo _ (h1.fr gU.fr0) (by omega) K1.out).mono ?_);rintro r w1 ⟨t1,rfl,r1,n1,u1⟩)
      |((with_reducible refine (zzNumbers N s2 c.le _ (h2.fr gU.fr0) (by omega) K2.out).mono ?_);rintro r w2 ⟨t2,rfl,r2,n2,u2⟩)
      |((with_reducible refine (zzNumbers N s3 c.ou _ (h3.fr gU.fr0) (by omega) K3.out).mono ?_);rintro r w3 ⟨t3,rfl,r3,n3,u3⟩)
      |((with_reducible refine (zzNumbers N s4 c.ne _ (h4.fr gU.fr0) (by omega) K4.out).mono ?_);rintro r w4 ⟨t4,rfl,r4,n4,u4⟩))
   |(go_at_call 219;obtain ⟨g0,g1,g2,g3,g4,gU⟩:=‹_=_∧_=_∧_=_∧_=_∧_=_∧Upd No w _›
     first
      |((with_reducible refine (zzPtrB (hob.upd gU (fun h=>h))).mono ?_);rintro r w5 ⟨q,rfl,r5,u5⟩)))
 go_wp2;go_ret;have f2:=u2.fr0 (N:=N);have f3:=u3.fr0 (N:=N);have f4:=u4.fr0 (N:=N);have f5:=u5.fr0 (N:=N);have f6:=((Upd.refl No w5).alloc (.cells #[t1.v,t2.v,t3.v,t4.v,pp q] 245)).fr0 (N:=N);have e5:=f5.trans f6;have e4:=f4.trans e5;have e3:=f3.trans e4;have e2:=f2.trans e3;exact ⟨_,rfl,⟨t1,t2,t3,t4,_,Blk.new_ rfl,Jg.fr r1 e2,Jg.fr r2 e3,Jg.fr r3 e4,Jg.fr r4 e5,.inr ⟨_,rfl,r5.alloc _⟩,⟨_,rfl⟩,n1,n2,n3,n4⟩,((((((Upd.refl No w).drew.no u1).no u2).no u3).no u4).no u5).alloc _⟩
def PbMeta (N:Nat) (w:World) (md:Nat) (i t:Int) (c:Conf):Prop:=∃cf ix tm,Blk w md 235 #[.pointer (some ⟨cf,0,none⟩),.pointer (some ⟨ix,0,none⟩),.pointer (some ⟨tm,0,none⟩)]∧
  PbConf N w cf c∧Blk w ix 23 #[.int .u64 i]∧Blk w tm 23 #[.int .u64 t]
theorem PbMeta.upd {N:Nat} {w w':World} {md:Nat} {i t:Int} {c:Conf} {S:Nat→Prop} (h:PbMeta N w md i t c) (hu:Upd S w w') (hf:Fr N w w') (h1:¬S md):PbMeta N w' md i t c:=by
 obtain ⟨cf,ix,tm,hb,hc,hi,ht⟩:=h;exact ⟨cf,ix,tm,hb.upd hu h1,hc.fr hf,hf.blk rfl hi,hf.blk rfl ht⟩
theorem metaClone (N:Nat) (p:Nat) (i t:Int) (c:Conf) (w:World) (h:PbMeta N w p i t c) (hs:c.small):
  Calls Tryz.prog 221 #[.pointer (some ⟨p,0,none⟩)] w fun e w'=>∃q,e=.returned (.pointer (some ⟨q,0,none⟩))∧PbMeta N w' q i t c∧Upd No w w'∧w.heap.size≤q:=by
 obtain ⟨cf,ix,tm,hb,hc,hi,ht⟩:=h;have z0:w.cell? ⟨p,0,none⟩=some (pp cf):=hb.cell 0;have z1:w.cell? ⟨p,1,none⟩=some (pp ix):=hb.cell 1;have z2:w.cell? ⟨p,2,none⟩=some (pp tm):=hb.cell 2;clear hb;go_enter Tryz.func221,Tryz.ntmps221;go_wp2_with fail
 go_region_held3 (fun w'=>w'.cell? ⟨p,0,none⟩=some (pp cf)∧w'.cell? ⟨p,1,none⟩=some (pp ix)∧w'.cell? ⟨p,2,none⟩=some (pp tm)∧Upd No w w')
  (first
   |(exact ⟨z0,z1,z2,(Upd.refl No w).drew⟩)
   |(obtain ⟨g0,g1,g2,gU⟩:=‹_=_∧_=_∧_=_∧Upd No w _›;exact ⟨cell_alloc g0,cell_alloc g1,cell_alloc g2,gU.alloc _⟩)
   |(exact ⟨u1.cell g0 (fun h=>h),u1.cell g1 (fun h=>h),u1.cell g2 (fun h=>h),gU.no u1⟩)
   |(exact ⟨u2.cell g0 (fun h=>h),u2.cell g1 (fun h=>h),u2.cell g2 (fun h=>h),gU.no u2⟩)
   |(exact ⟨u3.cell g0 (fun h=>h),u3.cell g1 (fun h=>h),u3.cell g2 (fun h=>h),gU.no u3⟩))
  (first
   |(go_at_call 189;obtain ⟨g0,g1,g2,gU⟩:=‹_=_∧_=_∧_=_∧Upd No w _›
     first
      |((with_reducible refine (confClone N cf c _ (hc.fr gU.fr0) hs).mono ?_);rintro r w1 ⟨q1,rfl,r1,u1⟩))
   |(go_at_call 225;obtain ⟨g0,g1,g2,gU⟩:=‹_=_∧_=_∧_=_∧Upd No w _›
     first
      |((with_reducible refine (zzPtrU (hi.upd gU (fun h=>h))).mono ?_);rintro r w2 ⟨q2,rfl,r2,u2⟩)
      |((with_reducible refine (zzPtrU (ht.upd gU (fun h=>h))).mono ?_);rintro r w3 ⟨q3,rfl,r3,u3⟩)))
 go_wp2;go_ret;have f6:=((Upd.refl No w3).alloc (.cells #[pp q1,pp q2,pp q3] 235)).fr0 (N:=N);have f3:=u3.fr0 (N:=N);have f2:=u2.fr0 (N:=N);have hu:=((((Upd.refl No w).drew.no u1).no u2).no u3);exact ⟨_,rfl,⟨q1,q2,q3,Blk.new_ rfl,r1.fr (f2.trans (f3.trans f6)),(f3.trans f6).blk rfl r2,f6.blk rfl r3⟩,hu.alloc _,hu.size⟩
def Snap.small (s:Snap):Prop:=s.cf.small∧s.data.size≤200
theorem snapClone (N:Nat) (sn md:Nat) (s:Snap) (w:World) (h:Kf N w sn md s) (hsm:s.small):
  Calls Tryz.prog 190 #[.pointer (some ⟨sn,0,none⟩)] w fun e w'=>∃q m,e=.returned (.pointer (some ⟨q,0,none⟩))∧Kf N w' q m s∧Upd No w w'∧w.heap.size≤q∧w.heap.size≤m:=by
 obtain ⟨ds,cf,ix,tm,hb,hm,hd,hc,hi,ht,hn,hn',kd⟩:=h;have KD:=qq kd;obtain ⟨hs,hds⟩:=hsm;have hl:ds.n≤200:=by have:=hd.1.len;omega
 have z0:w.cell? ⟨sn,0,none⟩=some ds.v:=hb.cell 0;have z1:w.cell? ⟨sn,1,none⟩=some (pp md):=hb.cell 1;have hN:N≤w.heap.size:=by have:=hb.lt;omega
 have hM:PbMeta N w md s.index s.term s.cf:=⟨cf,ix,tm,hm,hc,hi,ht⟩;clear hb kd hm hc hi ht;go_enter Tryz.func190,Tryz.ntmps190;go_wp2_with fail
 go_region_held3 (fun w'=>w'.cell? ⟨sn,0,none⟩=some ds.v∧w'.cell? ⟨sn,1,none⟩=some (pp md)∧Upd No w w')
  (first
   |(exact ⟨z0,z1,(Upd.refl No w).drew⟩)
   |(obtain ⟨g0,g1,gU⟩:=‹_=_∧_=_∧Upd No w _›;exact ⟨cell_alloc g0,cell_alloc g1,gU.alloc _⟩)
   |(exact ⟨u1.cell g0 (fun h=>h),u1.cell g1 (fun h=>h),gU.no u1⟩)
   |(exact ⟨u2.cell g0 (fun h=>h),u2.cell g1 (fun h=>h),gU.no u2⟩))
  (first
   |(go_at_call 220;obtain ⟨g0,g1,gU⟩:=‹_=_∧_=_∧Upd No w _›
     first
      |((with_reducible refine (zzBytes N ds s.data _ (hd.fr gU.fr0) (by omega) KD.out).mono ?_);rintro r w1 ⟨t1,rfl,r1,n1,m1,u1⟩))
   |(go_at_call 221;obtain ⟨g0,g1,gU⟩:=‹_=_∧_=_∧Upd No w _›
     first
      |((with_reducible refine (metaClone N md s.index s.term s.cf _ (hM.upd gU gU.fr0 (fun h=>h)) hs).mono ?_);rintro r w2 ⟨q2,rfl,r2,u2,l2⟩)))
 go_wp2;go_ret;obtain ⟨cf',ix',tm',b1,b2,b3,b4⟩:=r2;have u3:=(Upd.refl No w2).alloc (.cells #[t1.v,pp q2] 189);have f6:=u3.fr0 (N:=N);have f2:=u2.fr0 (N:=N);have hu:=(((Upd.refl No w).drew.no u1).no u2);have e1:=u1.size;have e2:=hu.size;simp only [World.size_drew] at e1;exact ⟨_,_,rfl,⟨t1,cf',ix',tm',Blk.new_ rfl,b1.upd u3 (fun h=>h),r1.fr (f2.trans f6),b2.fr f6,f6.blk rfl b3,f6.blk rfl b4,by omega,by omega,m1⟩,hu.alloc _,hu.size,by omega⟩
end Go.Proofs.YtmagnkjodjmojaaGreat
