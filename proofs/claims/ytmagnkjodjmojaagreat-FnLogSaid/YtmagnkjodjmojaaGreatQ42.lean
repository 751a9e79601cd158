/- A part of the proof of FnLog: laws and walks, with their conditions written at each. -/
import Derived.Lib.MinMax
import Derived.Test.YtmagnkjodjmojaaGreatQ41
set_option maxRecDepth 20000
set_option maxHeartbeats 4000000
set_option linter.all false
namespace Go.Proofs.YtmagnkjodjmojaaGreat
open Go.RowKit
section
variable {N:Nat} {w w':World}
theorem own_empty' {W:World} {H base:Nat} {T:TypeId} {sz:Nat} (h:Blk W H T #[]) (hb:base≤H):W.ownsRow base T sz (.slice (some ⟨H,0,none⟩) 0 0) 0 []:=
 ⟨by simp,.inr ⟨H,0,#[],rfl,hb,h,Nat.le_refl _,by simp [maxLen],by simp,by simp⟩⟩
def SlV.newer (n:Nat) (s:SlV):Prop:=∀b o,s.A=some ⟨b,o,none⟩→n≤b
def CfV.newer (n:Nat) (v:CfV):Prop:=v.vo.newer n∧v.le.newer n∧v.ou.newer n∧v.ne.newer n
theorem own_newer {W:World} {base:Nat} {T:TypeId} {sz:Nat} {s:SlV} {n:Nat} {xs:List Value} (h:W.ownsRow base T sz (.slice s.A s.n s.c) n xs):s.newer base:=by
 intro b o hA;obtain ⟨_,⟨e,_⟩|⟨g,cap,cur,e,hb,_⟩⟩:=h
 ·injection e with e1 e2 e3;rw [hA] at e1;cases e1
 ·injection e with e1 e2 e3;rw [hA] at e1;cases e1;exact hb
theorem SlV.newer.mono {n m:Nat} {s:SlV} (h:s.newer n) (hm:m≤n):s.newer m:=fun b o hA=>Nat.le_trans hm (h b o hA)
theorem CfV.newer.mono {n m:Nat} {v:CfV} (h:v.newer n) (hm:m≤n):v.newer m:=⟨h.1.mono hm,h.2.1.mono hm,h.2.2.1.mono hm,h.2.2.2.mono hm⟩
theorem Jg.far {sz:Nat} {s:SlV} {len:Nat} {f:Nat→Nat→Value} (h:Jg N w sz s len f) {S:Nat→Prop} (hu:Upd S w w') (hne:∀b o,s.A=some ⟨b,o,none⟩→¬S b):Jg N w' sz s len f:=
 ⟨h.len,h.cap,fun hn=>by
  obtain ⟨b,o,ha,hi,hc⟩:=h.at_ hn;have hk:=hu.keep b hi.1 (hne b o ha);refine ⟨b,o,ha,⟨Nat.lt_of_lt_of_le hi.1 hu.size,?_⟩,fun j i hj hi'=>(World.cell?_of_block (a:=⟨b,o+(j*sz+i),none⟩) hk).trans (hc j i hj hi')⟩;rcases hi.2 with h1|⟨T,⟨cs,fz,h1⟩,h2⟩
  ·exact .inl h1
  ·exact .inr ⟨T,⟨cs,fz,hk.trans h1⟩,h2⟩⟩
theorem kind_wrap (k:Int):(wrap64 (k.tmod 3+3)).tmod 3=(k.tmod 3+3).tmod 3:=by
 have h1:(k.tmod 3).natAbs<3:=by rw [Int.natAbs_tmod];exact Nat.mod_lt _ (by decide)
 have h2:wrap64 (k.tmod 3+3)=k.tmod 3+3:=by simp [wrap64];omega
 rw [h2]
theorem kind_bd (k:Int):0≤(k.tmod 3+3).tmod 3∧(k.tmod 3+3).tmod 3≤2:=by
 have h1:(k.tmod 3).natAbs<3:=by rw [Int.natAbs_tmod];exact Nat.mod_lt _ (by decide)
 have h2:0≤k.tmod 3+3:=by omega
 rw [Int.tmod_eq_emod_of_nonneg h2];omega
theorem Jz.takeS {sl:SlV} {xs:List Int} (h:Jz N w sl xs) {k:Nat} (hk:k≤sl.n):Jz N w ⟨sl.A,k,sl.c⟩ (xs.take k):=by
 have hl:=h.len;refine ⟨by simp;omega,by have:=h.cap;simp only;omega,fun hn=>?_⟩;have hn:0<k:=hn;obtain ⟨b,o,hA,hi,hcell⟩:=h.at_ (by omega);refine ⟨b,o,hA,hi,fun j i hj hi'=>?_⟩;have hj:j<k:=hj;rw [getD_take_lt hj,←hcell j i (by omega) hi']
theorem take_min {α:Type} {l:List α} {n c:Nat} (h:l.length=n):l.take (min (n:Int) (c:Int)).toNat=l.take c:=by
 subst h;rcases Nat.le_total l.length c with h1|h1
 ·rw [show (min (l.length:Int) (c:Int)).toNat=l.length by omega,List.take_length,List.take_of_length_le h1]
 ·rw [show (min (l.length:Int) (c:Int)).toNat=c by omega]
theorem short120 {sl:SlV} {xs:List Int} (h:Jz N w sl xs):
  Calls Tryz.prog 120 #[.slice sl.A sl.n sl.c] w fun e w'=>∃t:SlV,e=.returned (.slice t.A t.n t.c)∧Jz N w' t (xs.take 10)∧t.n≤10∧t.newer w.heap.size∧Upd No w w':=by
 have hl:=h.len;have hcap:=h.cap;have hm:(min (sl.n:Int) 10).toNat≤sl.n:=by omega
 have hm2:(min (sl.n:Int) 10).toNat≤10:=by omega
 have HS:=qq ((Jz.takeS h hm).fr ((Upd.refl No w).alloc (.cells #[] 23)).fr0);have HOW:=qq (own_empty' (W:=w.alloc (.cells #[] 23)) (base:=w.heap.size) (T:=23) (sz:=1) (Blk.new w 23 #[]) (Nat.le_refl _));have HZ:=qq (show w.heap.size≤(w.alloc (.cells #[] 23)).heap.size by simp);have HM:=qq (take_min (c:=10) hl);have HM2:=qq hm2;clear h hl hm hm2;go_enter Tryz.func120,Tryz.ntmps120
 go_wp2_with (first
  |(at_builtin;refine app_src rfl (.tmp 3) (.tmp 8) 35 rfl w.heap.size 23 (.int .u64 0) 1 8 Tryz.underlying35 inf23 rfl (by omega) (.slice (some ⟨w.heap.size,0,none⟩) 0 0) 0 [] rfl HOW.out sl.A (min (sl.n:Int) 10).toNat sl.c (numRow (xs.take (min (sl.n:Int) 10).toNat)) rfl (by rw [numRow_length,HS.out.len];simp) HS.out.src (numRow_one _) (by have:=HM2.out;simp only [maxLen];omega) (by have:=HM2.out;omega) HZ.out ?_
    intro v2 w2 ho2 hg2 hb2 hn2 hp2)
  |fail)
 rw [Nat.zero_add,List.nil_append,] at ho2;have HU:=qq (show Upd No w w2 from ((Upd.refl No w).alloc (.cells #[] 23)).grown hg2 (fun k hk=>.inr (by cases hk;exact Nat.le_refl _)));obtain ⟨t,rfl,ht,hr,_⟩:=own_nums (xs:=xs.take (min (sl.n:Int) 10).toNat) ho2 N;have HR:=qq hr;have HT:=qq (show t.n≤10 from by have:=HM2.out;rw [ht,List.length_take];omega);have HNW:=qq (own_newer ho2);clear ho2 hg2 hb2 hn2 hp2 ht hr;go_wp2;go_ret;exact ⟨t,rfl,HM.out ▸HR.out,HT.out,HNW.out,HU.out⟩
def shC (c:Conf):Conf:=⟨c.vo.take 10,c.le.take 10,c.ou.take 10,c.ne.take 10,c.auto⟩
theorem inf37:(Tryz.prog.info? 37).map (·.size)=some 5:=by kernel_rfl
def CfV.cells (v:CfV):Array Value:=#[.slice v.vo.A v.vo.n v.vo.c,.slice v.le.A v.le.n v.le.c,.slice v.ou.A v.ou.n v.ou.c,.slice v.ne.A v.ne.n v.ne.c,.bool v.auto]
theorem CfV.one (v:CfV):v.cells.all (·.oneCell')=true:=by simp [CfV.cells,Value.oneCell']
theorem short49 {v:CfV} {c:Conf} (h:v.Raw N w c) (hN:N≤w.heap.size):
  Calls Tryz.prog 49 #[.agg #[.slice v.vo.A v.vo.n v.vo.c,.slice v.le.A v.le.n v.le.c,.slice v.ou.A v.ou.n v.ou.c,.slice v.ne.A v.ne.n v.ne.c,.bool v.auto]] w fun e w'=>∃t:CfV,e=.returned (.agg t.cells)∧t.Rd N w' (shC c)∧t.newer w.heap.size∧Upd No w w':=by
 have H120:=qq fun (s:SlV) (xs:List Int) (hs:Jz N w s xs) (W:World) (hu:Upd No w W)=>short120 (hs.fr hu.fr0);obtain ⟨wa,hwa⟩:∃W,(w.alloc (.cells #[v.vo.v,v.le.v,v.ou.v,v.ne.v,.bool v.auto] 37)).alloc (.cells #[.slice none 0 0,.slice none 0 0,.slice none 0 0,.slice none 0 0,.bool false] 37)=W:=⟨_,rfl⟩;have HUA:=qq (show Upd No w wa by rw [←hwa];exact ((Upd.refl No w).alloc _).alloc _);have HPB:=qq (show Blk wa w.heap.size 37 #[v.vo.v,v.le.v,v.ou.v,v.ne.v,.bool v.auto] by rw [←hwa];exact (Blk.new w _ _).alloc _);have HRB:=qq (show Blk wa (w.heap.size+1) 37 #[.slice none 0 0,.slice none 0 0,.slice none 0 0,.slice none 0 0,.bool false] by rw [←hwa];exact Blk.new_ (by simp))
 have HS:=qq fun (W:World) (hu:Upd No wa W)=>(show W.cell? ⟨w.heap.size,0,none⟩=some v.vo.v∧W.cell? ⟨w.heap.size,1,none⟩=some v.le.v∧W.cell? ⟨w.heap.size,2,none⟩=some v.ou.v∧W.cell? ⟨w.heap.size,3,none⟩=some v.ne.v∧W.cell? ⟨w.heap.size,4,none⟩=some (.bool v.auto) from
  have hb:=HPB.out.upd hu (fun h=>h)
  ⟨hb.cell 0,hb.cell 1,hb.cell 2,hb.cell 3,hb.cell 4⟩)
 have HS9:=qq fun (W:World) (hu:Upd No wa W) (W':World) (hu':Upd (fun k=>k=w.heap.size+1) W W')=>(show W'.cell? ⟨w.heap.size,0,none⟩=some v.vo.v∧W'.cell? ⟨w.heap.size,1,none⟩=some v.le.v∧W'.cell? ⟨w.heap.size,2,none⟩=some v.ou.v∧W'.cell? ⟨w.heap.size,3,none⟩=some v.ne.v∧W'.cell? ⟨w.heap.size,4,none⟩=some (.bool v.auto) from
  have hb:=(HPB.out.upd hu (fun h=>h)).upd hu' (fun (e:w.heap.size=w.heap.size+1)=>by omega)
  ⟨hb.cell 0,hb.cell 1,hb.cell 2,hb.cell 3,hb.cell 4⟩)
 have U0:=qq (show Upd No wa wa.drew from (Upd.refl No wa).drew);have HV:=qq h;have HNN:=qq hN;clear h hN;go_enter Tryz.func49,Tryz.ntmps49;go_wp2_with fail
 clear hwa;refine wp_region_held_drew (S:=(fun W=>W.cell? ⟨w.heap.size,0,none⟩=some v.vo.v∧W.cell? ⟨w.heap.size,1,none⟩=some v.le.v∧W.cell? ⟨w.heap.size,2,none⟩=some v.ou.v∧W.cell? ⟨w.heap.size,3,none⟩=some v.ne.v∧W.cell? ⟨w.heap.size,4,none⟩=some (.bool v.auto))) (by kernel_rfl) (HS.out _ U0.out) (fun hHeld=>?_);refine td 0 3 rfl ?_ ?_ ?_;rotate_left 1
 ·intro w hS;go_simp;all_goals with_reducible rfl
 try simp only [NR]
 refine td 1 4 rfl ?_ ?_ ?_;rotate_left 1
 ·intro w hS;go_simp;all_goals with_reducible rfl
 try simp only [NR]
 refine td 3 6 rfl ?_ ?_ ?_;rotate_left 1
 ·intro w hS;go_simp;all_goals with_reducible rfl
 try simp only [NR]
 refine td 4 7 rfl ?_ ?_ ?_;rotate_left 1
 ·intro w hS;go_simp;all_goals with_reducible rfl
 try simp only [NR]
 refine td 6 9 rfl ?_ ?_ ?_;rotate_left 1
 ·intro w hS;go_simp;all_goals with_reducible rfl
 try simp only [NR]
 refine td 7 10 rfl ?_ ?_ ?_;rotate_left 1
 ·intro w hS;go_simp;all_goals with_reducible rfl
 try simp only [NR]
 refine td 9 12 rfl ?_ ?_ ?_;rotate_left 1
 ·intro w hS;go_simp;all_goals with_reducible rfl
 try simp only [NR]
 refine td 10 13 rfl ?_ ?_ ?_;rotate_left 1
 ·intro w hS;go_simp;all_goals with_reducible rfl
 try simp only [NR]
 refine td 12 15 rfl ?_ ?_ ?_;rotate_left 1
 ·intro w hS;go_simp;all_goals with_reducible rfl
 try simp only [NR]
 refine td 13 16 rfl ?_ ?_ ?_;rotate_left 1
 ·intro w hS;go_simp;all_goals with_reducible rfl
 try simp only [NR]
 refine wpAnyH_ready (rs:=[2]) (by kernel_rfl) (by simp) ?_;refine AllReadyH.cons (o:=⟨some 5,_,_,_,_,_⟩) rfl (fun K hK=>?_) AllReadyH.nil;rw [if_pos (by rfl)];go_simp;refine (H120.out v.vo c.vo HV.out.vo _ (HUA.out.no U0.out)).mono ?_;rintro r w1 ⟨t1,rfl,hr,hn,hnw,hu⟩;have U1:=qq (U0.out.no hu);have R1:=qq hr;have N1:=qq hn;have E1:=qq (hnw.mono (HUA.out.no U0.out).size);clear hr hn hnw hu;go_wp2_with fail
 refine hK.out _ _ (HS.out _ U1.out) (fun hHeld=>?_);clear hK;try simp only [NR]
 refine wpAnyH_ready (rs:=[5]) (by kernel_rfl) (by simp) ?_;refine AllReadyH.cons (o:=⟨some 8,_,_,_,_,_⟩) rfl (fun K hK=>?_) AllReadyH.nil;rw [if_pos (by rfl)];go_simp;refine (H120.out v.le c.le HV.out.le _ (HUA.out.no U1.out)).mono ?_;rintro r w2 ⟨t2,rfl,hr,hn,hnw,hu⟩;have U2:=qq (U1.out.no hu);have R1:=qq (R1.out.fr hu.fr0);have R2:=qq hr;have N2:=qq hn;have E2:=qq (hnw.mono (HUA.out.no U1.out).size);clear hr hn hnw hu;go_wp2_with fail
 refine hK.out _ _ (HS.out _ U2.out) (fun hHeld=>?_);clear hK;try simp only [NR]
 refine wpAnyH_ready (rs:=[8]) (by kernel_rfl) (by simp) ?_;refine AllReadyH.cons (o:=⟨some 11,_,_,_,_,_⟩) rfl (fun K hK=>?_) AllReadyH.nil;rw [if_pos (by rfl)];go_simp;refine (H120.out v.ou c.ou HV.out.ou _ (HUA.out.no U2.out)).mono ?_;rintro r w3 ⟨t3,rfl,hr,hn,hnw,hu⟩;have U3:=qq (U2.out.no hu);have R1:=qq (R1.out.fr hu.fr0);have R2:=qq (R2.out.fr hu.fr0);have R3:=qq hr;have N3:=qq hn;have E3:=qq (hnw.mono (HUA.out.no U2.out).size);clear hr hn hnw hu;go_wp2_with fail
 refine hK.out _ _ (HS.out _ U3.out) (fun hHeld=>?_);clear hK;try simp only [NR]
 refine wpAnyH_ready (rs:=[11]) (by kernel_rfl) (by simp) ?_;refine AllReadyH.cons (o:=⟨some 14,_,_,_,_,_⟩) rfl (fun K hK=>?_) AllReadyH.nil;rw [if_pos (by rfl)];go_simp;refine (H120.out v.ne c.ne HV.out.ne _ (HUA.out.no U3.out)).mono ?_;rintro r w4 ⟨t4,rfl,hr,hn,hnw,hu⟩;have U4:=qq (U3.out.no hu);have R1:=qq (R1.out.fr hu.fr0);have R2:=qq (R2.out.fr hu.fr0);have R3:=qq (R3.out.fr hu.fr0);have R4:=qq hr;have N4:=qq hn;have E4:=qq (hnw.mono (HUA.out.no U3.out).size);clear hr hn hnw hu;go_wp2_with fail
 refine hK.out _ _ (HS.out _ U4.out) (fun hHeld=>?_);clear hK;try simp only [NR]
 refine td 14 17 rfl ?_ ?_ ?_;rotate_left 1
 ·intro w hS;go_simp;all_goals with_reducible rfl
 try simp only [NR]
 refine wpAnyH_ready (rs:=[15]) (by kernel_rfl) (by simp) ?_;refine AllReadyH.cons (o:=⟨none,_,_,_,_,_⟩) rfl (fun K hK=>?_) AllReadyH.nil;have HB4:=qq (HRB.out.upd U4.out (fun h=>h));refine step_store_blk rfl 37 (.tmp 2) (.tmp 17) rfl (w.heap.size+1) #[t1.v,t2.v,t3.v,t4.v,.bool v.auto] rfl rfl 37 #[.slice none 0 0,.slice none 0 0,.slice none 0 0,.slice none 0 0,.bool false] HB4.out inf37 rfl (by simp [Value.oneCell']) ?_;intro w9 hb9 hu9;have HB9:=qq hb9;have HU9:=qq hu9;clear hb9 hu9;refine hK.out _ _ (HS9.out _ U4.out _ HU9.out) (fun hHeld=>?_);clear hK;try simp only [NR]
 refine wpAnyH_done (by kernel_rfl) ?_ _;go_wp2_with fail
 refine ret_blk rfl (w.heap.size+1) 37 #[t1.v,t2.v,t3.v,t4.v,.bool v.auto] _ rfl HB9.out Tryz.underlying37 rfl inf37 rfl ?_;have hu9:Upd No w w9:=(HUA.out.no U4.out).trans HU9.out (by rintro k rfl;exact .inr (Nat.le_succ _));have hf9:Fr N w4 w9:=HU9.out.fr (by rintro k rfl;exact HB4.out.mutb (Nat.le_trans HNN.out (Nat.le_succ _)) rfl);exact ⟨⟨t1,t2,t3,t4,v.auto⟩,rfl,⟨R1.out.fr hf9,R2.out.fr hf9,R3.out.fr hf9,R4.out.fr hf9,HV.out.auto,N1.out,N2.out,N3.out,N4.out⟩,⟨E1.out,E2.out,E3.out,E4.out⟩,hu9⟩
def shS (s:Snap):Snap:=⟨s.data.extract 0 (min (s.data.size:Int) 200).toNat,s.index,s.term,shC s.cf⟩
theorem short18 {v:SnV} {c:Snap} (h:v.Raw N w c) (hN:N≤w.heap.size):
  Calls Tryz.prog 18 #[.agg #[.string v.data,.int .u64 v.index,.int .u64 v.term,.slice v.cf.vo.A v.cf.vo.n v.cf.vo.c,.slice v.cf.le.A v.cf.le.n v.cf.le.c,.slice v.cf.ou.A v.cf.ou.n v.cf.ou.c,.slice v.cf.ne.A v.cf.ne.n v.cf.ne.c,.bool v.cf.auto]] w fun e w'=>∃t:SnV,e=.returned (.agg t.cells)∧t.Rd N w' (shS c)∧t.cf.newer w.heap.size∧Upd No w w':=by
 obtain ⟨wa,hwa⟩:∃W,(w.alloc (.cells #[.string v.data,.int .u64 v.index,.int .u64 v.term,v.cf.vo.v,v.cf.le.v,v.cf.ou.v,v.cf.ne.v,.bool v.cf.auto] 39)).alloc (.cells #[.string ⟨#[]⟩,.int .u64 0,.int .u64 0,.slice none 0 0,.slice none 0 0,.slice none 0 0,.slice none 0 0,.bool false] 39)=W:=⟨_,rfl⟩;have HUA:=qq (show Upd No w wa by rw [←hwa];exact ((Upd.refl No w).alloc _).alloc _);have H49:=qq fun (W:World) (hu:Upd No wa W)=>short49 (h.cf.fr (HUA.out.no hu).fr0) (Nat.le_trans hN (HUA.out.no hu).size);have HPB:=qq (show Blk wa w.heap.size 39 #[.string v.data,.int .u64 v.index,.int .u64 v.term,v.cf.vo.v,v.cf.le.v,v.cf.ou.v,v.cf.ne.v,.bool v.cf.auto] by rw [←hwa];exact (Blk.new w _ _).alloc _);have HRB:=qq (show Blk wa (w.heap.size+1) 39 #[.string ⟨#[]⟩,.int .u64 0,.int .u64 0,.slice none 0 0,.slice none 0 0,.slice none 0 0,.slice none 0 0,.bool false] by rw [←hwa];exact Blk.new_ (by simp))
 have HS:=qq fun (W:World) (hu:Upd No wa W)=>(show W.cell? ⟨w.heap.size,0,none⟩=some (.string v.data)∧W.cell? ⟨w.heap.size,1,none⟩=some (.int .u64 v.index)∧W.cell? ⟨w.heap.size,2,none⟩=some (.int .u64 v.term)∧W.cell? ⟨w.heap.size,3,none⟩=some v.cf.vo.v∧W.cell? ⟨w.heap.size,4,none⟩=some v.cf.le.v∧W.cell? ⟨w.heap.size,5,none⟩=some v.cf.ou.v∧W.cell? ⟨w.heap.size,6,none⟩=some v.cf.ne.v∧W.cell? ⟨w.heap.size,7,none⟩=some (.bool v.cf.auto) from
  have hb:=HPB.out.upd hu (fun h=>h)
  ⟨hb.cell 0,hb.cell 1,hb.cell 2,hb.cell 3,hb.cell 4,hb.cell 5,hb.cell 6,hb.cell 7⟩)
 have HS9:=qq fun (W:World) (hu:Upd No wa W) (W':World) (hu':Upd (fun k=>k=w.heap.size+1) W W')=>(show W'.cell? ⟨w.heap.size,0,none⟩=some (.string v.data)∧W'.cell? ⟨w.heap.size,1,none⟩=some (.int .u64 v.index)∧W'.cell? ⟨w.heap.size,2,none⟩=some (.int .u64 v.term)∧W'.cell? ⟨w.heap.size,3,none⟩=some v.cf.vo.v∧W'.cell? ⟨w.heap.size,4,none⟩=some v.cf.le.v∧W'.cell? ⟨w.heap.size,5,none⟩=some v.cf.ou.v∧W'.cell? ⟨w.heap.size,6,none⟩=some v.cf.ne.v∧W'.cell? ⟨w.heap.size,7,none⟩=some (.bool v.cf.auto) from
  have hb:=(HPB.out.upd hu (fun h=>h)).upd hu' (fun (e:w.heap.size=w.heap.size+1)=>by omega)
  ⟨hb.cell 0,hb.cell 1,hb.cell 2,hb.cell 3,hb.cell 4,hb.cell 5,hb.cell 6,hb.cell 7⟩)
 have U0:=qq (show Upd No wa wa.drew from (Upd.refl No wa).drew);have HV:=qq h;have HNN:=qq hN;have jm0:0≤min (v.data.size:Int) 200:=by omega
 have jm1:min (v.data.size:Int) 200≤(v.data.size:Int):=by omega
 clear h hN;go_enter Tryz.func18,Tryz.ntmps18;go_wp2_with fail
 clear hwa;refine wp_region_held_drew (S:=(fun W=>W.cell? ⟨w.heap.size,0,none⟩=some (.string v.data)∧W.cell? ⟨w.heap.size,1,none⟩=some (.int .u64 v.index)∧W.cell? ⟨w.heap.size,2,none⟩=some (.int .u64 v.term)∧W.cell? ⟨w.heap.size,3,none⟩=some v.cf.vo.v∧W.cell? ⟨w.heap.size,4,none⟩=some v.cf.le.v∧W.cell? ⟨w.heap.size,5,none⟩=some v.cf.ou.v∧W.cell? ⟨w.heap.size,6,none⟩=some v.cf.ne.v∧W.cell? ⟨w.heap.size,7,none⟩=some (.bool v.cf.auto))) (by kernel_rfl) (HS.out _ U0.out) (fun hHeld=>?_);refine td 0 3 rfl ?_ ?_ ?_;rotate_left 1
 ·intro w hS;go_simp;all_goals with_reducible rfl
 try simp only [NR]
 refine td 1 4 rfl ?_ ?_ ?_;rotate_left 1
 ·intro w hS;go_simp;all_goals with_reducible rfl
 try simp only [NR]
 refine td 2 5 rfl ?_ ?_ ?_;rotate_left 1
 ·intro w hS;go_simp;all_goals with_reducible rfl
 try simp only [NR]
 refine td 3 6 rfl ?_ ?_ ?_;rotate_left 1
 ·intro w hS;go_simp;all_goals with_reducible rfl
 try simp only [NR]
 refine td 4 7 rfl ?_ ?_ ?_;rotate_left 1
 ·intro w hS;go_simp;all_goals with_reducible rfl
 try simp only [NR]
 refine td 5 8 rfl ?_ ?_ ?_;rotate_left 1
 ·intro w hS;go_simp;all_goals with_reducible rfl
 try simp only [NR]
 refine td 6 9 rfl ?_ ?_ ?_;rotate_left 1
 ·intro w hS;go_simp;all_goals with_reducible rfl
 try simp only [NR]
 refine td 7 10 rfl ?_ ?_ ?_;rotate_left 1
 ·intro w hS;go_simp;all_goals with_reducible rfl
 try simp only [NR]
 refine td 8 11 rfl ?_ ?_ ?_;rotate_left 1
 ·intro w hS;go_simp;all_goals with_reducible rfl
 try simp only [NR]
 refine td 9 12 rfl ?_ ?_ ?_;rotate_left 1
 ·intro w hS;go_simp;all_goals with_reducible rfl
 try simp only [NR]
 refine td 10 13 rfl ?_ ?_ ?_;rotate_left 1
 ·intro w hS;go_simp;all_goals with_reducible rfl
 try simp only [NR]
 refine td 11 14 rfl ?_ ?_ ?_;rotate_left 1
 ·intro w hS;go_simp;all_goals with_reducible rfl
 try simp only [NR]
 refine td 12 15 rfl ?_ ?_ ?_;rotate_left 1
 ·intro w hS;go_simp;all_goals with_reducible rfl
 try simp only [NR]
 refine wpAnyH_ready (rs:=[13]) (by kernel_rfl) (by simp) ?_;refine AllReadyH.cons (o:=⟨some 16,_,_,_,_,_⟩) rfl (fun K hK=>?_) AllReadyH.nil;rw [if_pos (by rfl)];go_simp;refine (H49.out _ U0.out).mono ?_;rintro r w1 ⟨t,rfl,hr,hnw,hu⟩;have U1:=qq (U0.out.no hu);have R1:=qq hr;have E1:=qq (hnw.mono (HUA.out.no U0.out).size);clear hr hnw hu;unfold CfV.cells;go_wp2_with fail
 refine hK.out _ _ (HS.out _ U1.out) (fun hHeld=>?_);clear hK;try simp only [NR]
 refine td 14 17 rfl ?_ ?_ ?_;rotate_left 1
 ·intro w hS;go_simp;all_goals with_reducible rfl
 try simp only [NR]
 refine wpAnyH_ready (rs:=[15]) (by kernel_rfl) (by simp) ?_;refine AllReadyH.cons (o:=⟨none,_,_,_,_,_⟩) rfl (fun K hK=>?_) AllReadyH.nil;have HB4:=qq (HRB.out.upd U1.out (fun h=>h));refine step_store_blk rfl 39 (.tmp 2) (.tmp 17) rfl (w.heap.size+1) #[.string (v.data.extract 0 (min (v.data.size:Int) 200).toNat),.int .u64 v.index,.int .u64 v.term,t.vo.v,t.le.v,t.ou.v,t.ne.v,.bool t.auto] rfl rfl 39 #[.string ⟨#[]⟩,.int .u64 0,.int .u64 0,.slice none 0 0,.slice none 0 0,.slice none 0 0,.slice none 0 0,.bool false] HB4.out inf39 rfl (by simp [Value.oneCell']) ?_;intro w9 hb9 hu9;have HB9:=qq hb9;have HU9:=qq hu9;clear hb9 hu9;refine hK.out _ _ (HS9.out _ U1.out _ HU9.out) (fun hHeld=>?_);clear hK;try simp only [NR]
 refine wpAnyH_done (by kernel_rfl) ?_ _;go_wp2_with fail
 refine ret_blk rfl (w.heap.size+1) 39 #[.string (v.data.extract 0 (min (v.data.size:Int) 200).toNat),.int .u64 v.index,.int .u64 v.term,t.vo.v,t.le.v,t.ou.v,t.ne.v,.bool t.auto] _ rfl HB9.out Tryz.underlying39 rfl inf39 rfl ?_;have hu9:Upd No w w9:=(HUA.out.no U1.out).trans HU9.out (by rintro k rfl;exact .inr (Nat.le_succ _));have hf9:Fr N w1 w9:=HU9.out.fr (by rintro k rfl;exact HB4.out.mutb (Nat.le_trans HNN.out (Nat.le_succ _)) rfl);exact ⟨({data:=(v.data.extract 0 (min (v.data.size:Int) 200).toNat),index:=v.index,term:=v.term,cf:=t}:SnV),rfl,⟨by rw [HV.out.data];rfl,HV.out.index,HV.out.term,R1.out.fr hf9,by simp only [shS];rw [ByteArray.size_extract];omega⟩,E1.out,hu9⟩
def shE (e:Ent):Ent:=⟨e.term,e.index,(e.kind.tmod 3+3).tmod 3,e.data.extract 0 (min (e.data.size:Int) 200).toNat⟩
def shEs (es:List Ent):List Ent:=(es.take 60).map shE
def RowIs (cur:Array Value) (sz m:Nat) (F:Nat→Nat→Value):Prop:=∀j i,j<m→i<sz→cur[j*sz+i]? =some (F j i)
theorem RowIs.set {cur:Array Value} {sz m:Nat} {F:Nat→Nat→Value} (h:RowIs cur sz m F) {k i0:Nat} (hk:k<m) (hi0:i0<sz) (x:Value):RowIs (cur.setIfInBounds (k*sz+i0) x) sz m (fun j i=>if j=k∧i=i0 then x else F j i):=by
 intro j i hj hi;have hb:=h k i0 hk hi0;have hlt:k*sz+i0<cur.size:=(Array.getElem?_eq_some_iff.1 hb).1;show _=some (if j=k∧i=i0 then x else F j i);by_cases he:j=k∧i=i0
 ·obtain ⟨rfl,rfl⟩:=he;rw [if_pos ⟨rfl,rfl⟩,Array.getElem?_setIfInBounds_self_of_lt hlt]
 ·rw [if_neg he,Array.getElem?_setIfInBounds_ne,h j i hj hi];intro e;apply he;have hjk:j=k:=by
   rcases Nat.lt_trichotomy j k with h1|h1|h1
   ·have:(j+1)*sz≤k*sz:=Nat.mul_le_mul_right _ h1
    rw [Nat.add_mul] at this;omega
   ·exact h1
   ·have:(k+1)*sz≤j*sz:=Nat.mul_le_mul_right _ h1
    rw [Nat.add_mul] at this;omega
  subst hjk;exact ⟨rfl,by omega⟩
theorem RowIs.congr {cur:Array Value} {sz m:Nat} {F G:Nat→Nat→Value} (h:RowIs cur sz m F) (hf:∀j i,j<m→i<sz→F j i=G j i):RowIs cur sz m G:=fun j i hj hi=>by rw [h j i hj hi,hf j i hj hi]
theorem own_block {W:World} {base:Nat} {T:TypeId} {sz:Nat} {v:Value} {n:Nat} {xs:List Value} (h:W.ownsRow base T sz v n xs) (hv:v≠ .slice none 0 0):∃g cap cur,v=.slice (some ⟨g,0,none⟩) n cap∧base≤g∧Blk W g T cur∧n≤cap∧RowIs cur sz n (fun j i=>xs.getD (j*sz+i) undef):=by
 obtain ⟨hl,⟨rfl,_⟩|⟨g,cap,cur,rfl,hb,hg,hc,hm,hs,hx⟩⟩:=h
 ·exact absurd rfl hv
 ·refine ⟨g,cap,cur,rfl,hb,hg,hc,fun j i hj hi=>?_⟩;have hlt:j*sz+i<n*sz:=by
   have:(j+1)*sz≤n*sz:=Nat.mul_le_mul_right _ hj
   rw [Nat.add_mul] at this;omega
  have e1:xs[j*sz+i]? =cur[j*sz+i]?:=by rw [←hx,List.getElem?_take,if_pos hlt];simp
  rw [←e1,List.getElem?_eq_getElem (by omega)];simp [List.getD_eq_getElem?_getD,List.getElem?_eq_getElem (show j*sz+i<xs.length by omega)]
theorem RowIs.rd {W:World} {T:TypeId} {sz n cap g:Nat} {cur:Array Value} {F:Nat→Nat→Value} (h:RowIs cur sz n F) (hb:Blk W g T cur) (hi:immT T=true) (hc:n≤cap) (N:Nat):Jg N W sz ⟨some ⟨g,0,none⟩,n,cap⟩ n F:=
 ⟨rfl,hc,fun _=>⟨g,0,rfl,hb.imm hi,fun j i hj hi'=>by rw [hb.cell,Nat.zero_add];exact h j i hj hi'⟩⟩
def mxE (es:List Ent) (k j:Nat):Ent:=if j<k then shE (es.getD j default) else es.getD j default
theorem short17 {sl:SlV} {es:List Ent} (h:Jh N w sl es):
  Calls Tryz.prog 17 #[.slice sl.A sl.n sl.c] w fun e w'=>∃t:SlV,e=.returned (.slice t.A t.n t.c)∧Jh N w' t (shEs es)∧t.newer w.heap.size∧Upd No w w':=by
 have hl:=h.len;have hcap:=h.cap;obtain ⟨m,hm⟩:∃m,m=(min (sl.n:Int) 60).toNat:=⟨_,rfl⟩;have hm1:m≤sl.n:=by omega
 have hm2:m≤60:=by omega
 have HS:=qq ((Jh.takeS h hm1).fr ((Upd.refl No w).alloc (.cells #[] 104)).fr0);have HOW:=qq (own_empty' (W:=w.alloc (.cells #[] 104)) (base:=w.heap.size) (T:=104) (sz:=4) (Blk.new w 104 #[]) (Nat.le_refl _));have HZ:=qq (show w.heap.size≤(w.alloc (.cells #[] 104)).heap.size by simp);have HM:=qq (show es.take m=es.take 60 by rw [hm];exact take_min (c:=60) hl);have HLM:=qq (show (es.take m).length=m by rw [List.length_take];omega);have HM2:=qq hm2;have HMM:=qq hm;clear h hl hm hm1 hm2;go_enter Tryz.func17,Tryz.ntmps17
 go_upto_region 2 with (first
  |(at_builtin;rw [←HMM.out];refine app_src rfl (.tmp 5) (.tmp 10) 34 rfl w.heap.size 104 (.agg #[.int .u64 0,.int .u64 0,.int .i64 0,.string ⟨#[]⟩]) 4 40 Tryz.underlying34 inf104 rfl (by omega) (.slice (some ⟨w.heap.size,0,none⟩) 0 0) 0 [] rfl HOW.out sl.A m sl.c (entRow (es.take m)) rfl (by rw [entRow_length,HLM.out]) HS.out.news (entRow_one _) (by have:=HM2.out;simp only [maxLen];omega) (by have:=HM2.out;omega) HZ.out ?_
    intro v2 w2 ho2 hg2 hb2 hn2 hp2)
  |fail)
 rw [Nat.zero_add,List.nil_append] at ho2;have hvne:v2≠ .slice none 0 0:=by
  rcases Nat.eq_zero_or_pos m with h0|h0
  ·rw [hn2 h0];exact fun e=>by cases e
  ·exact hp2 h0
 obtain ⟨g,cap,cur,rfl,hg,hb,hmc,hrow⟩:=own_block ho2 hvne;have HG:=qq hg;have HB:=qq hb;have HMC:=qq hmc;have HROW:=qq (hrow.congr (G:=fun j i=>entCell (mxE (es.take m) 0 j) i) fun j i hj hi=>by rw [entRow_at _ _ _ (by rw [HLM.out];exact hj) hi];rfl);have HU:=qq (show Upd No w w2 from ((Upd.refl No w).alloc (.cells #[] 104)).grown hg2 (fun k hk=>.inr (by cases hk;exact Nat.le_refl _)));have HSH:=qq (show (es.take m).map shE=shEs es by unfold shEs;rw [HM.out]);have HNM:=qq (show m≤maxLen by have:=HM2.out;simp only [maxLen];omega);have hm60:=HM2.out;obtain ⟨e0,he0⟩:∃x,x=es.take m:=⟨_,rfl⟩;rw [←he0] at HROW HSH HLM;clear ho2 hg2 hb2 hn2 hp2 hvne hg hb hmc hrow he0 HS HOW HZ HM HMM;go_wp2_with fail
 go_loopw [4,14] (fun _ i wr=>∃(k:Nat) (cu:Array Value),k≤m∧i=.int .i64 (k:Nat)∧Hid (Blk wr g 104 cu)∧Hid (RowIs cu 4 m (fun j i=>entCell (mxE e0 k j) i))∧Hid (Upd No w wr)) (fun _ i _=>m - (intOf i).toNat)
 case atStart=>exact ⟨0,cur,Nat.zero_le _,rfl,HB,HROW,HU⟩
 case round=>
  obtain ⟨k,cu,hk,rfl,hb,hr,hu⟩:=hrel;by_cases hlt:k<m
  ·have c2:wr.cell? ⟨g,k*4+2,none⟩=some (.int .i64 (e0.getD k default).kind):=by rw [hb.out.cell,hr.out k 2 hlt (by omega)];simp only [mxE,Nat.lt_irrefl,if_false];rfl
   have c3:wr.cell? ⟨g,k*4+3,none⟩=some (.string (e0.getD k default).data):=by rw [hb.out.cell,hr.out k 3 hlt (by omega)];simp only [mxE,Nat.lt_irrefl,if_false];rfl
   have y:=hb.out.frozen
   have HNX:=qq fun (d:ByteArray) (q:Int) (hd:d=(shE (e0.getD k default)).data) (hq:q=(shE (e0.getD k default)).kind)=>(show RowIs ((cu.setIfInBounds (k*4+3) (.string d)).setIfInBounds (k*4+2) (.int .i64 q)) 4 m (fun j i=>entCell (mxE e0 (k+1) j) i) from
    ((hr.out.set hlt (by omega) (.string d)).set hlt (by omega) (.int .i64 q)).congr fun j i hj hi=>by
     by_cases hjk:j=k
     ·subst hjk;simp only [mxE,Nat.lt_irrefl,if_false,Nat.lt_succ_self,if_true];match i,hi with
      |0,_=>rfl
      |1,_=>rfl
      |2,_=>simp [hq];rfl
      |3,_=>simp [hd];rfl
     ·simp only [hjk,false_and,if_false,mxE];by_cases h1:j<k
      ·rw [if_pos h1,if_pos (by omega)]
      ·rw [if_neg h1,if_neg (by omega)])
   generalize e0.getD k default=e at*;have jm0:0≤min (e.data.size:Int) 200:=by omega
   have jm1:min (e.data.size:Int) 200≤(e.data.size:Int):=by omega
   go_wp2_with fail
   go_still_tail 17,(by kernel_rfl)
   change wpList _ _ _ _ _ wr.drew;have c2':wr.drew.cell? ⟨g,k*4+2,none⟩=some (.int .i64 e.kind):=c2;have c3':wr.drew.cell? ⟨g,k*4+3,none⟩=some (.string e.data):=c3;have y':∀i,wr.drew.frozen? ⟨g,i,none⟩=false:=y;have hb':=qq hb.out.drew;have hu':=qq hu.out.drew;clear c2 c3 y hb hu hr;generalize wr.drew=w1 at*;go_wp2_with fail
   refine ⟨⟨k+1,_,by omega,by simp,qq ((hb'.out.set_ _ _).set_ _ _),qq (HNX.out _ _ rfl (kind_wrap _)),qq ((hu'.out.setCell (.inr HG.out) _).setCell (.inr HG.out) _)⟩,by simp [intOf];omega⟩
  ·obtain rfl:k=m:=by omega
   have hf:=(hr.out.congr (G:=fun j i=>entCell ((shEs es).getD j default) i) fun j i hj hi=>by
    simp only [mxE,hj,if_true];rw [←HSH.out]
    simp [List.getD_eq_getElem?_getD,List.getElem?_eq_getElem (show j<e0.length by have:=HLM.out;omega)]).rd hb.out rfl HMC.out N
   have HF:=qq hf;have HLS:=qq (show (shEs es).length=k by rw [←HSH.out,List.length_map];exact HLM.out);clear hf hr hb;go_wp2;go_ret;exact ⟨⟨some ⟨g,0,none⟩,k,cap⟩,rfl,(show Jg N wr 4 _ (shEs es).length _ by rw [HLS.out];exact HF.out),(fun b o hA=>by cases hA;exact HG.out),hu.out⟩
theorem CfV.Rd.far {v:CfV} {c:Conf} (h:v.Rd N w c) {n:Nat} (hn:v.newer n) {S:Nat→Prop} (hu:Upd S w w') (hS:∀k,S k→k<n):v.Rd N w' c:=
 have f:∀s:SlV,s.newer n→∀b o,s.A=some ⟨b,o,none⟩→¬S b:=fun s hs b o hA hk=>absurd (hs b o hA) (by have:=hS b hk;omega)
 ⟨Jg.far h.vo hu (f _ hn.1),Jg.far h.le hu (f _ hn.2.1),Jg.far h.ou hu (f _ hn.2.2.1),Jg.far h.ne hu (f _ hn.2.2.2),h.auto,h.n1,h.n2,h.n3,h.n4⟩
theorem SnV.Rd.far {v:SnV} {c:Snap} (h:v.Rd N w c) {n:Nat} (hn:v.cf.newer n) {S:Nat→Prop} (hu:Upd S w w') (hS:∀k,S k→k<n):v.Rd N w' c:=
 ⟨h.data,h.index,h.term,h.cf.far hn hu hS,h.d⟩
theorem Jd.putSn {W:World} {v:Jd} {b:Nat} (T:SnV) (hb:Blk W b 43 v.cells):Blk (W.setCells b 5 T.cells.toList) b 43 ({v with sn:=T}:Jd).cells:=
 (show ((((((((v.cells.setIfInBounds 5 (.string T.data)).setIfInBounds 6 (.int .u64 T.index)).setIfInBounds 7 (.int .u64 T.term)).setIfInBounds 8 (.slice T.cf.vo.A T.cf.vo.n T.cf.vo.c)).setIfInBounds 9 (.slice T.cf.le.A T.cf.le.n T.cf.le.c)).setIfInBounds 10 (.slice T.cf.ou.A T.cf.ou.n T.cf.ou.c)).setIfInBounds 11 (.slice T.cf.ne.A T.cf.ne.n T.cf.ne.c)).setIfInBounds 12 (.bool T.cf.auto))=({v with sn:=T}:Jd).cells by simp [Jd.cells]) ▸((((((((hb.set_ 5 (.string T.data)).set_ 6 (.int .u64 T.index)).set_ 7 (.int .u64 T.term)).set_ 8 (.slice T.cf.vo.A T.cf.vo.n T.cf.vo.c)).set_ 9 (.slice T.cf.le.A T.cf.le.n T.cf.le.c)).set_ 10 (.slice T.cf.ou.A T.cf.ou.n T.cf.ou.c)).set_ 11 (.slice T.cf.ne.A T.cf.ne.n T.cf.ne.c)).set_ 12 (.bool T.cf.auto))
def shSC (c:SCall):SCall:={c with es:=shEs c.es,snap:=shS c.snap}
theorem short16 {v:Jd} {c:SCall} (h:v.Raw N w c) (hN:N≤w.heap.size):
  Calls Tryz.prog 16 #[.agg #[.int .i64 v.kind,.int .u64 v.a,.int .u64 v.b,.int .u64 v.c,.slice v.es.A v.es.n v.es.c,.string v.sn.data,.int .u64 v.sn.index,.int .u64 v.sn.term,.slice v.sn.cf.vo.A v.sn.cf.vo.n v.sn.cf.vo.c,.slice v.sn.cf.le.A v.sn.cf.le.n v.sn.cf.le.c,.slice v.sn.cf.ou.A v.sn.cf.ou.n v.sn.cf.ou.c,.slice v.sn.cf.ne.A v.sn.cf.ne.n v.sn.cf.ne.c,.bool v.sn.cf.auto,.int .u64 v.x,.int .u64 v.y,.int .u64 v.z]] w fun e w'=>∃t:Jd,e=.returned (.agg t.cells)∧t.Rd N w' (shSC c)∧t.es.newer w.heap.size∧t.sn.cf.newer w.heap.size∧Upd No w w':=by
 obtain ⟨wa,hwa⟩:∃W,(w.alloc (.cells #[.int .i64 v.kind,.int .u64 v.a,.int .u64 v.b,.int .u64 v.c,v.es.v,.string v.sn.data,.int .u64 v.sn.index,.int .u64 v.sn.term,v.sn.cf.vo.v,v.sn.cf.le.v,v.sn.cf.ou.v,v.sn.cf.ne.v,.bool v.sn.cf.auto,.int .u64 v.x,.int .u64 v.y,.int .u64 v.z] 43)).alloc (.cells Z43 43)=W:=⟨_,rfl⟩;have HUA:=qq (show Upd No w wa by rw [←hwa];exact ((Upd.refl No w).alloc _).alloc _);have H17:=qq fun (W:World) (hu:Upd No wa W)=>short17 (h.es.fr (HUA.out.no hu).fr0);have H18:=qq fun (W:World) (hu:Upd No wa W)=>short18 (h.sn.fr (HUA.out.no hu).fr0) (Nat.le_trans hN (HUA.out.no hu).size);have HPB:=qq (show Blk wa w.heap.size 43 #[.int .i64 v.kind,.int .u64 v.a,.int .u64 v.b,.int .u64 v.c,v.es.v,.string v.sn.data,.int .u64 v.sn.index,.int .u64 v.sn.term,v.sn.cf.vo.v,v.sn.cf.le.v,v.sn.cf.ou.v,v.sn.cf.ne.v,.bool v.sn.cf.auto,.int .u64 v.x,.int .u64 v.y,.int .u64 v.z] by rw [←hwa];exact (Blk.new w _ _).alloc _);have HRB:=qq (show Blk wa (w.heap.size+1) 43 Z43 by rw [←hwa];exact Blk.new_ (by simp))
 have HCELL:=qq fun (W:World) (hu:Upd No wa W)=>(show W.cell? ⟨w.heap.size,4,none⟩=some v.es.v∧W.cell? ⟨w.heap.size,5,none⟩=some (.string v.sn.data)∧W.cell? ⟨w.heap.size,6,none⟩=some (.int .u64 v.sn.index)∧W.cell? ⟨w.heap.size,7,none⟩=some (.int .u64 v.sn.term)∧W.cell? ⟨w.heap.size,8,none⟩=some v.sn.cf.vo.v∧W.cell? ⟨w.heap.size,9,none⟩=some v.sn.cf.le.v∧W.cell? ⟨w.heap.size,10,none⟩=some v.sn.cf.ou.v∧W.cell? ⟨w.heap.size,11,none⟩=some v.sn.cf.ne.v∧W.cell? ⟨w.heap.size,12,none⟩=some (.bool v.sn.cf.auto) from
  have hb:=HPB.out.upd hu (fun h=>h)
  ⟨hb.cell 4,hb.cell 5,hb.cell 6,hb.cell 7,hb.cell 8,hb.cell 9,hb.cell 10,hb.cell 11,hb.cell 12⟩)
 have UC:=qq (show Upd No wa wa.drew from (Upd.refl No wa).drew);have HV:=qq h;clear h hN;go_enter Tryz.func16,Tryz.ntmps16;go_wp2_with fail
 clear hwa;refine wp_region_held_drew (S:=(fun _=>True)) (by kernel_rfl) (trivial) (fun hHeld=>?_);refine td 0 3 rfl ?_ ?_ ?_;rotate_left 1
 ·intro w hS;go_simp;all_goals with_reducible rfl
 try simp only [NR]
 refine td 3 6 rfl ?_ ?_ ?_;rotate_left 1
 ·intro w hS;go_simp;all_goals with_reducible rfl
 try simp only [NR]
 refine wpAnyH_ready (rs:=[1,4]) (by kernel_rfl) (by simp) ?_;refine AllReadyH.cons (o:=⟨some 4,_,_,_,_,_⟩) rfl (fun K hK=>?_) ?_;focus
  obtain ⟨z4,z5,z6,z7,z8,z9,z10,z11,z12⟩:=HCELL.out _ UC.out;rw [if_pos (by rfl)];go_simp;refine hK.out _ _ (trivial) (fun hHeld=>?_);clear hK;try simp only [NR]
  clear z4 z5 z6 z7 z8 z9 z10 z11 z12;refine wpAnyH_ready (rs:=[2,4]) (by kernel_rfl) (by simp) ?_;refine AllReadyH.cons (o:=⟨some 5,_,_,_,_,_⟩) rfl (fun K hK=>?_) ?_;focus
   rw [if_pos (by rfl)];go_simp;refine (H17.out _ UC.out).mono ?_;rintro r wA ⟨t,rfl,hr,hnw,hu⟩;have EA:=qq (hnw.mono (HUA.out.no UC.out).size);have EA2:=qq (hnw.mono UC.out.size);have UC:=qq (UC.out.no hu);have RA:=qq hr;clear hr hnw hu;go_wp2_with fail
   refine hK.out _ _ (trivial) (fun hHeld=>?_);clear hK;try simp only [NR]
   refine wpAnyH_ready (rs:=[4]) (by kernel_rfl) (by simp) ?_;refine AllReadyH.cons (o:=⟨some 7,_,_,_,_,_⟩) rfl (fun K hK=>?_) AllReadyH.nil;obtain ⟨z4,z5,z6,z7,z8,z9,z10,z11,z12⟩:=HCELL.out _ UC.out;rw [if_pos (by rfl)];go_simp;refine hK.out _ _ (trivial) (fun hHeld=>?_);clear hK;try simp only [NR]
   clear z4 z5 z6 z7 z8 z9 z10 z11 z12;refine td 6 9 rfl ?_ ?_ ?_;rotate_left 1
   ·intro w hS;go_simp;all_goals with_reducible rfl
   try simp only [NR]
   refine wpAnyH_ready (rs:=[5]) (by kernel_rfl) (by simp) ?_;refine AllReadyH.cons (o:=⟨some 8,_,_,_,_,_⟩) rfl (fun K hK=>?_) AllReadyH.nil;rw [if_pos (by rfl)];go_simp;refine (H18.out _ UC.out).mono ?_;rintro r wB ⟨T,rfl,hr,hnw,hu⟩;have EB2:=qq (hnw.mono UC.out.size);have UC:=qq (UC.out.no hu);have RA:=qq (RA.out.fr hu.fr0);have RB:=qq hr;clear hr hnw hu;go_wp2_with fail
   refine hK.out _ _ (trivial) (fun hHeld=>?_);clear hK;try simp only [NR]
   refine wpAnyH_ready (rs:=[7]) (by kernel_rfl) (by simp) ?_;refine AllReadyH.cons (o:=⟨none,_,_,_,_,_⟩) rfl (fun K hK=>?_) AllReadyH.nil;have HB4:=qq (HPB.out.upd UC.out (fun h=>h));have z4:wB.cell? ⟨w.heap.size,4,none⟩=some v.es.v:=HB4.out.cell 4;have y:=HB4.out.frozen;rw [if_pos (by rfl)];go_simp;refine hK.out _ _ (trivial) (fun hHeld=>?_);clear hK;try simp only [NR]
   clear z4 y;obtain ⟨w5,hw5⟩:∃W,W=wB.setCell ⟨w.heap.size,4,none⟩ t.v:=⟨_,rfl⟩;have HB5:=qq (show Blk w5 w.heap.size 43 ({v with es:=t}:Jd).cells by rw [hw5];exact HB4.out.set_ 4 _);have U5:=qq (show Upd (fun k=>k=w.heap.size) wB w5 by rw [hw5];exact (Upd.refl (fun k=>k=w.heap.size) wB).setIn rfl 4 _);rw [←hw5];clear hw5;refine td 8 10 rfl ?_ ?_ ?_;rotate_left 1
   ·intro w hS;go_simp;all_goals with_reducible rfl
   try simp only [NR]
   refine wpAnyH_ready (rs:=[9]) (by kernel_rfl) (by simp) ?_;refine AllReadyH.cons (o:=⟨none,_,_,_,_,_⟩) rfl (fun K hK=>?_) AllReadyH.nil;refine step_store_mid rfl 39 (.tmp 10) (.tmp 8) rfl w.heap.size 5 T.cells rfl rfl 43 _ ({v with es:=t,sn:=T}:Jd).cells HB5.out (fun W hb=>Jd.putSn (v:={v with es:=t}) T hb) (by decide:5+8≤16) (SnV.inf8 T) (SnV.one8 T) ?_;intro w6 hb6 hu6;have HB6:=qq hb6;have U6:=qq (U5.out.Ke hu6);clear hb6 hu6;refine hK.out _ _ (trivial) (fun hHeld=>?_);clear hK;try simp only [NR]
   refine wpAnyH_done (by kernel_rfl) ?_ _;have HIN:=qq (Jd.inf ({v with es:=t,sn:=T}:Jd));have HON:=qq (Jd.one ({v with es:=t,sn:=T}:Jd));have HR6:=qq ((HRB.out.upd UC.out (fun h=>h)).upd U6.out (fun (e:w.heap.size+1=w.heap.size)=>by omega));have HSZ:=qq (show (Z43:Array Value).size=({v with es:=t,sn:=T}:Jd).cells.size from rfl)
   go_wp2_with (first
    |(with_reducible refine Jm rfl 43 (.tmp 1) rfl w.heap.size ({v with es:=t,sn:=T}:Jd).cells rfl 43 _ HB6.out Tryz.underlying43 rfl HIN.out ?_)
    |(with_reducible refine Jk rfl 43 (.tmp 2) (.tmp 11) rfl (w.heap.size+1) ({v with es:=t,sn:=T}:Jd).cells rfl rfl 43 Z43 HR6.out HIN.out HSZ.out HON.out ?_
      intro w9 hb9 hu9;have HB9:=qq hb9;have HU9:=qq hu9
      clear hb9 hu9)
    |fail)
   refine ret_blk rfl (w.heap.size+1) 43 ({v with es:=t,sn:=T}:Jd).cells _ rfl HB9.out Tryz.underlying43 rfl HIN.out rfl ?_;have hS:∀k,(k=w.heap.size∨k=w.heap.size+1)→k<wa.heap.size:=fun k hk=>by have:=HRB.out.lt;omega
   have hu9:Upd (fun k=>k=w.heap.size∨k=w.heap.size+1) wB w9:=(U6.out.mono fun k hk=>.inl hk).Ke (HU9.out.mono fun k hk=>.inr hk);exact ⟨({v with es:=t,sn:=T}:Jd),rfl,⟨HV.out.kind,HV.out.a,HV.out.b,HV.out.cc,Jg.far RA.out hu9 (fun b o hA hk=>absurd (EA2.out b o hA) (by have:=hS b hk;omega)),RB.out.far EB2.out hu9 hS⟩,EA.out,EB2.out.mono HUA.out.size,(HUA.out.no UC.out).trans hu9 (fun k hk=>.inr (by rcases hk with h|h<;>omega))⟩
  rotate_left 1;refine AllReadyH.cons (o:=⟨some 7,_,_,_,_,_⟩) rfl (fun K hK=>?_) AllReadyH.nil;obtain ⟨z4,z5,z6,z7,z8,z9,z10,z11,z12⟩:=HCELL.out _ UC.out;rw [if_pos (by rfl)];go_simp;refine hK.out _ _ (trivial) (fun hHeld=>?_);clear hK;try simp only [NR]
  clear z4 z5 z6 z7 z8 z9 z10 z11 z12;refine wpAnyH_ready (rs:=[2]) (by kernel_rfl) (by simp) ?_;refine AllReadyH.cons (o:=⟨some 5,_,_,_,_,_⟩) rfl (fun K hK=>?_) AllReadyH.nil;rw [if_pos (by rfl)];go_simp;refine (H17.out _ UC.out).mono ?_;rintro r wA ⟨t,rfl,hr,hnw,hu⟩;have EA:=qq (hnw.mono (HUA.out.no UC.out).size);have EA2:=qq (hnw.mono UC.out.size);have UC:=qq (UC.out.no hu);have RA:=qq hr;clear hr hnw hu;go_wp2_with fail
  refine hK.out _ _ (trivial) (fun hHeld=>?_);clear hK;try simp only [NR]
  refine td 6 9 rfl ?_ ?_ ?_;rotate_left 1
  ·intro w hS;go_simp;all_goals with_reducible rfl
  try simp only [NR]
  refine wpAnyH_ready (rs:=[5]) (by kernel_rfl) (by simp) ?_;refine AllReadyH.cons (o:=⟨some 8,_,_,_,_,_⟩) rfl (fun K hK=>?_) AllReadyH.nil;rw [if_pos (by rfl)];go_simp;refine (H18.out _ UC.out).mono ?_;rintro r wB ⟨T,rfl,hr,hnw,hu⟩;have EB2:=qq (hnw.mono UC.out.size);have UC:=qq (UC.out.no hu);have RA:=qq (RA.out.fr hu.fr0);have RB:=qq hr;clear hr hnw hu;go_wp2_with fail
  refine hK.out _ _ (trivial) (fun hHeld=>?_);clear hK;try simp only [NR]
  refine wpAnyH_ready (rs:=[7]) (by kernel_rfl) (by simp) ?_;refine AllReadyH.cons (o:=⟨none,_,_,_,_,_⟩) rfl (fun K hK=>?_) AllReadyH.nil;have HB4:=qq (HPB.out.upd UC.out (fun h=>h));have z4:wB.cell? ⟨w.heap.size,4,none⟩=some v.es.v:=HB4.out.cell 4;have y:=HB4.out.frozen;rw [if_pos (by rfl)];go_simp;refine hK.out _ _ (trivial) (fun hHeld=>?_);clear hK;try simp only [NR]
  clear z4 y;obtain ⟨w5,hw5⟩:∃W,W=wB.setCell ⟨w.heap.size,4,none⟩ t.v:=⟨_,rfl⟩;have HB5:=qq (show Blk w5 w.heap.size 43 ({v with es:=t}:Jd).cells by rw [hw5];exact HB4.out.set_ 4 _);have U5:=qq (show Upd (fun k=>k=w.heap.size) wB w5 by rw [hw5];exact (Upd.refl (fun k=>k=w.heap.size) wB).setIn rfl 4 _);rw [←hw5];clear hw5;refine td 8 10 rfl ?_ ?_ ?_;rotate_left 1
  ·intro w hS;go_simp;all_goals with_reducible rfl
  try simp only [NR]
  refine wpAnyH_ready (rs:=[9]) (by kernel_rfl) (by simp) ?_;refine AllReadyH.cons (o:=⟨none,_,_,_,_,_⟩) rfl (fun K hK=>?_) AllReadyH.nil;refine step_store_mid rfl 39 (.tmp 10) (.tmp 8) rfl w.heap.size 5 T.cells rfl rfl 43 _ ({v with es:=t,sn:=T}:Jd).cells HB5.out (fun W hb=>Jd.putSn (v:={v with es:=t}) T hb) (by decide:5+8≤16) (SnV.inf8 T) (SnV.one8 T) ?_;intro w6 hb6 hu6;have HB6:=qq hb6;have U6:=qq (U5.out.Ke hu6);clear hb6 hu6;refine hK.out _ _ (trivial) (fun hHeld=>?_);clear hK;try simp only [NR]
  refine wpAnyH_done (by kernel_rfl) ?_ _;have HIN:=qq (Jd.inf ({v with es:=t,sn:=T}:Jd));have HON:=qq (Jd.one ({v with es:=t,sn:=T}:Jd));have HR6:=qq ((HRB.out.upd UC.out (fun h=>h)).upd U6.out (fun (e:w.heap.size+1=w.heap.size)=>by omega));have HSZ:=qq (show (Z43:Array Value).size=({v with es:=t,sn:=T}:Jd).cells.size from rfl)
  go_wp2_with (first
   |(with_reducible refine Jm rfl 43 (.tmp 1) rfl w.heap.size ({v with es:=t,sn:=T}:Jd).cells rfl 43 _ HB6.out Tryz.underlying43 rfl HIN.out ?_)
   |(with_reducible refine Jk rfl 43 (.tmp 2) (.tmp 11) rfl (w.heap.size+1) ({v with es:=t,sn:=T}:Jd).cells rfl rfl 43 Z43 HR6.out HIN.out HSZ.out HON.out ?_
     intro w9 hb9 hu9;have HB9:=qq hb9;have HU9:=qq hu9
     clear hb9 hu9)
   |fail)
  refine ret_blk rfl (w.heap.size+1) 43 ({v with es:=t,sn:=T}:Jd).cells _ rfl HB9.out Tryz.underlying43 rfl HIN.out rfl ?_;have hS:∀k,(k=w.heap.size∨k=w.heap.size+1)→k<wa.heap.size:=fun k hk=>by have:=HRB.out.lt;omega
  have hu9:Upd (fun k=>k=w.heap.size∨k=w.heap.size+1) wB w9:=(U6.out.mono fun k hk=>.inl hk).Ke (HU9.out.mono fun k hk=>.inr hk);exact ⟨({v with es:=t,sn:=T}:Jd),rfl,⟨HV.out.kind,HV.out.a,HV.out.b,HV.out.cc,Jg.far RA.out hu9 (fun b o hA hk=>absurd (EA2.out b o hA) (by have:=hS b hk;omega)),RB.out.far EB2.out hu9 hS⟩,EA.out,EB2.out.mono HUA.out.size,(HUA.out.no UC.out).trans hu9 (fun k hk=>.inr (by rcases hk with h|h<;>omega))⟩
 rotate_left 1;refine AllReadyH.cons (o:=⟨some 7,_,_,_,_,_⟩) rfl (fun K hK=>?_) AllReadyH.nil;obtain ⟨z4,z5,z6,z7,z8,z9,z10,z11,z12⟩:=HCELL.out _ UC.out;rw [if_pos (by rfl)];go_simp;refine hK.out _ _ (trivial) (fun hHeld=>?_);clear hK;try simp only [NR]
 clear z4 z5 z6 z7 z8 z9 z10 z11 z12;refine wpAnyH_ready (rs:=[1]) (by kernel_rfl) (by simp) ?_;refine AllReadyH.cons (o:=⟨some 4,_,_,_,_,_⟩) rfl (fun K hK=>?_) AllReadyH.nil;obtain ⟨z4,z5,z6,z7,z8,z9,z10,z11,z12⟩:=HCELL.out _ UC.out;rw [if_pos (by rfl)];go_simp;refine hK.out _ _ (trivial) (fun hHeld=>?_);clear hK;try simp only [NR]
 clear z4 z5 z6 z7 z8 z9 z10 z11 z12;refine wpAnyH_ready (rs:=[2]) (by kernel_rfl) (by simp) ?_;refine AllReadyH.cons (o:=⟨some 5,_,_,_,_,_⟩) rfl (fun K hK=>?_) AllReadyH.nil;rw [if_pos (by rfl)];go_simp;refine (H17.out _ UC.out).mono ?_;rintro r wA ⟨t,rfl,hr,hnw,hu⟩;have EA:=qq (hnw.mono (HUA.out.no UC.out).size);have EA2:=qq (hnw.mono UC.out.size);have UC:=qq (UC.out.no hu);have RA:=qq hr;clear hr hnw hu;go_wp2_with fail
 refine hK.out _ _ (trivial) (fun hHeld=>?_);clear hK;try simp only [NR]
 refine td 6 9 rfl ?_ ?_ ?_;rotate_left 1
 ·intro w hS;go_simp;all_goals with_reducible rfl
 try simp only [NR]
 refine wpAnyH_ready (rs:=[5]) (by kernel_rfl) (by simp) ?_;refine AllReadyH.cons (o:=⟨some 8,_,_,_,_,_⟩) rfl (fun K hK=>?_) AllReadyH.nil;rw [if_pos (by rfl)];go_simp;refine (H18.out _ UC.out).mono ?_;rintro r wB ⟨T,rfl,hr,hnw,hu⟩;have EB2:=qq (hnw.mono UC.out.size);have UC:=qq (UC.out.no hu);have RA:=qq (RA.out.fr hu.fr0);have RB:=qq hr;clear hr hnw hu;go_wp2_with fail
 refine hK.out _ _ (trivial) (fun hHeld=>?_);clear hK;try simp only [NR]
 refine wpAnyH_ready (rs:=[7]) (by kernel_rfl) (by simp) ?_;refine AllReadyH.cons (o:=⟨none,_,_,_,_,_⟩) rfl (fun K hK=>?_) AllReadyH.nil;have HB4:=qq (HPB.out.upd UC.out (fun h=>h));have z4:wB.cell? ⟨w.heap.size,4,none⟩=some v.es.v:=HB4.out.cell 4;have y:=HB4.out.frozen;rw [if_pos (by rfl)];go_simp;refine hK.out _ _ (trivial) (fun hHeld=>?_);clear hK;try simp only [NR]
 clear z4 y;obtain ⟨w5,hw5⟩:∃W,W=wB.setCell ⟨w.heap.size,4,none⟩ t.v:=⟨_,rfl⟩;have HB5:=qq (show Blk w5 w.heap.size 43 ({v with es:=t}:Jd).cells by rw [hw5];exact HB4.out.set_ 4 _);have U5:=qq (show Upd (fun k=>k=w.heap.size) wB w5 by rw [hw5];exact (Upd.refl (fun k=>k=w.heap.size) wB).setIn rfl 4 _);rw [←hw5];clear hw5;refine td 8 10 rfl ?_ ?_ ?_;rotate_left 1
 ·intro w hS;go_simp;all_goals with_reducible rfl
 try simp only [NR]
 refine wpAnyH_ready (rs:=[9]) (by kernel_rfl) (by simp) ?_;refine AllReadyH.cons (o:=⟨none,_,_,_,_,_⟩) rfl (fun K hK=>?_) AllReadyH.nil;refine step_store_mid rfl 39 (.tmp 10) (.tmp 8) rfl w.heap.size 5 T.cells rfl rfl 43 _ ({v with es:=t,sn:=T}:Jd).cells HB5.out (fun W hb=>Jd.putSn (v:={v with es:=t}) T hb) (by decide:5+8≤16) (SnV.inf8 T) (SnV.one8 T) ?_;intro w6 hb6 hu6;have HB6:=qq hb6;have U6:=qq (U5.out.Ke hu6);clear hb6 hu6;refine hK.out _ _ (trivial) (fun hHeld=>?_);clear hK;try simp only [NR]
 refine wpAnyH_done (by kernel_rfl) ?_ _;have HIN:=qq (Jd.inf ({v with es:=t,sn:=T}:Jd));have HON:=qq (Jd.one ({v with es:=t,sn:=T}:Jd));have HR6:=qq ((HRB.out.upd UC.out (fun h=>h)).upd U6.out (fun (e:w.heap.size+1=w.heap.size)=>by omega));have HSZ:=qq (show (Z43:Array Value).size=({v with es:=t,sn:=T}:Jd).cells.size from rfl)
 go_wp2_with (first
  |(with_reducible refine Jm rfl 43 (.tmp 1) rfl w.heap.size ({v with es:=t,sn:=T}:Jd).cells rfl 43 _ HB6.out Tryz.underlying43 rfl HIN.out ?_)
  |(with_reducible refine Jk rfl 43 (.tmp 2) (.tmp 11) rfl (w.heap.size+1) ({v with es:=t,sn:=T}:Jd).cells rfl rfl 43 Z43 HR6.out HIN.out HSZ.out HON.out ?_
    intro w9 hb9 hu9;have HB9:=qq hb9;have HU9:=qq hu9
    clear hb9 hu9)
  |fail)
 refine ret_blk rfl (w.heap.size+1) 43 ({v with es:=t,sn:=T}:Jd).cells _ rfl HB9.out Tryz.underlying43 rfl HIN.out rfl ?_;have hS:∀k,(k=w.heap.size∨k=w.heap.size+1)→k<wa.heap.size:=fun k hk=>by have:=HRB.out.lt;omega
 have hu9:Upd (fun k=>k=w.heap.size∨k=w.heap.size+1) wB w9:=(U6.out.mono fun k hk=>.inl hk).Ke (HU9.out.mono fun k hk=>.inr hk);exact ⟨({v with es:=t,sn:=T}:Jd),rfl,⟨HV.out.kind,HV.out.a,HV.out.b,HV.out.cc,Jg.far RA.out hu9 (fun b o hA hk=>absurd (EA2.out b o hA) (by have:=hS b hk;omega)),RB.out.far EB2.out hu9 hS⟩,EA.out,EB2.out.mono HUA.out.size,(HUA.out.no UC.out).trans hu9 (fun k hk=>.inr (by rcases hk with h|h<;>omega))⟩
end
end Go.Proofs.YtmagnkjodjmojaaGreat
