/- A part of the proof of FnLog: laws and walks, with their conditions written at each. -/
import Derived.Test.YtmagnkjodjmojaaGreatQ44
set_option maxRecDepth 20000
set_option maxHeartbeats 4000000
set_option linter.all false
namespace Go.Proofs.YtmagnkjodjmojaaGreat
open Go.RowKit
section
variable {N:Nat} {w w':World}
theorem same44 {s t:SlV} {es:List Ent} (h1:Jh N w s es) (h2:Jh N w t es) (hlen:s.n≤100000):
  Calls Tryz.prog 44 #[.slice s.A s.n s.c,.slice t.A t.n t.c] w fun e w'=>e=.returned (.bool true)∧Upd No w w':=by
 have hl1:=h1.len;have hl2:=h2.len;have hst:s.n=t.n:=by omega
 have HH1:=qq fun (W:World) (hu:Upd No w W)=>(show Jh N W s es from h1.fr hu.fr0);have HH2:=qq fun (W:World) (hu:Upd No w W)=>(show Jh N W t es from h2.fr hu.fr0);obtain ⟨sA,sn,sc⟩:=s;obtain ⟨tA,tn,tc⟩:=t;simp only at hst hlen ⊢;subst hst;clear h1 h2 hl1 hl2;go_enter Tryz.func44,Tryz.ntmps44;go_wp2_with fail
 go_loopw [5] (fun i wr=>∃k:Nat,k≤sn∧i=.int .i64 (k:Nat)∧Hid (Upd No w wr)) (fun i _=>sn - (intOf i).toNat)
 case atStart=>exact ⟨0,Nat.zero_le _,rfl,qq (Upd.refl No w)⟩
 case round=>
  obtain ⟨k,hk,rfl,hu⟩:=hrel;by_cases hlt:k<sn
  ·obtain ⟨b1,o1,hA1,_,k0,k1,k2,k3⟩:=(HH1.out wr hu.out).at4 hlt;obtain ⟨b2,o2,hA2,_,m0,m1,m2,m3⟩:=(HH2.out wr hu.out).at4 hlt;simp only at hA1 hA2;subst hA1 hA2;generalize es.getD k default=e at*;go_wp2_with fail
   go_quiet (fail)
   go_wp2;exact ⟨⟨k+1,by omega,by simp,qq (hu.out.drewN _)⟩,by simp [intOf];omega⟩
  ·obtain rfl:k=sn:=by omega
   go_wp2;go_ret;exact ⟨rfl,hu.out⟩
theorem same184 {s t:SlV} {es:List Int} (h1:Jz N w s es) (h2:Jz N w t es) (hlen:s.n≤100000):
  Calls Tryz.prog 184 #[.slice s.A s.n s.c,.slice t.A t.n t.c] w fun e w'=>e=.returned (.bool true)∧Upd No w w':=by
 have hl1:=h1.len;have hl2:=h2.len;have hst:s.n=t.n:=by omega
 have HH1:=qq fun (W:World) (hu:Upd No w W)=>(show Jz N W s es from h1.fr hu.fr0);have HH2:=qq fun (W:World) (hu:Upd No w W)=>(show Jz N W t es from h2.fr hu.fr0);obtain ⟨sA,sn,sc⟩:=s;obtain ⟨tA,tn,tc⟩:=t;simp only at hst hlen ⊢;subst hst;clear h1 h2 hl1 hl2;go_enter Tryz.func184,Tryz.ntmps184;go_wp2_with fail
 go_loopw [5] (fun i wr=>∃k:Nat,k≤sn∧i=.int .i64 (k:Nat)∧Hid (Upd No w wr)) (fun i _=>sn - (intOf i).toNat)
 case atStart=>exact ⟨0,Nat.zero_le _,rfl,qq (Upd.refl No w)⟩
 case round=>
  obtain ⟨k,hk,rfl,hu⟩:=hrel;by_cases hlt:k<sn
  ·obtain ⟨b1,o1,hA1,_,k0⟩:=(HH1.out wr hu.out).at1 hlt;obtain ⟨b2,o2,hA2,_,m0⟩:=(HH2.out wr hu.out).at1 hlt;simp only at hA1 hA2;subst hA1 hA2;generalize es.getD k 0=e at*;go_wp2_with fail
   go_quiet (fail)
   go_wp2;exact ⟨⟨k+1,by omega,by simp,qq (hu.out.drewN _)⟩,by simp [intOf];omega⟩
  ·obtain rfl:k=sn:=by omega
   go_wp2;go_ret;exact ⟨rfl,hu.out⟩
theorem same115 {v u:CfV} {c:Conf} (h1:v.Rd N w c) (h2:u.Rd N w c):
  Calls Tryz.prog 115 #[.agg #[.slice v.vo.A v.vo.n v.vo.c,.slice v.le.A v.le.n v.le.c,.slice v.ou.A v.ou.n v.ou.c,.slice v.ne.A v.ne.n v.ne.c,.bool v.auto],.agg #[.slice u.vo.A u.vo.n u.vo.c,.slice u.le.A u.le.n u.le.c,.slice u.ou.A u.ou.n u.ou.c,.slice u.ne.A u.ne.n u.ne.c,.bool u.auto]] w fun e w'=>e=.returned (.bool true)∧Upd No w w':=by
 have H:=qq fun (W:World) (hu:Upd No w W) (s t:SlV) (xs:List Int) (hs:Jz N w s xs) (ht:Jz N w t xs) (hn:s.n≤10)=>same184 (hs.fr hu.fr0) (ht.fr hu.fr0) (show s.n≤100000 by omega);obtain ⟨wa,hwa⟩:∃W,(w.alloc (.cells #[v.vo.v,v.le.v,v.ou.v,v.ne.v,.bool v.auto] 37)).alloc (.cells #[u.vo.v,u.le.v,u.ou.v,u.ne.v,.bool u.auto] 37)=W:=⟨_,rfl⟩;have HUA:=qq (show Upd No w wa by rw [←hwa];exact ((Upd.refl No w).alloc _).alloc _);have HP:=qq (show Blk wa w.heap.size 37 #[v.vo.v,v.le.v,v.ou.v,v.ne.v,.bool v.auto] by rw [←hwa];exact (Blk.new w _ _).alloc _);have HQ:=qq (show Blk wa (w.heap.size+1) 37 #[u.vo.v,u.le.v,u.ou.v,u.ne.v,.bool u.auto] by rw [←hwa];exact Blk.new_ (by simp));have HV:=qq h1;have HW:=qq h2;have HA:=qq (show (v.auto==u.auto)=true by rw [h1.auto,h2.auto];exact beq_self_eq_true _);have b0:wa.cell? ⟨w.heap.size,0,none⟩=some v.vo.v:=HP.out.cell 0;have d0:wa.cell? ⟨w.heap.size+1,0,none⟩=some u.vo.v:=HQ.out.cell 0;have U0:=qq (Upd.refl No wa);clear h1 h2;go_enter Tryz.func115,Tryz.ntmps115;go_wp2_with fail
 clear hwa;refine (H.out _ (HUA.out.no U0.out) v.vo u.vo c.vo HV.out.vo HW.out.vo HV.out.n1).mono ?_;rintro r w1 ⟨rfl,hu⟩;have U1:=qq (U0.out.no hu);clear hu;have b1:w1.cell? ⟨w.heap.size,1,none⟩=some v.le.v:=(HP.out.upd U1.out (fun h=>h)).cell 1;have d1:w1.cell? ⟨w.heap.size+1,1,none⟩=some u.le.v:=(HQ.out.upd U1.out (fun h=>h)).cell 1;go_wp2_with fail
 refine (H.out _ (HUA.out.no U1.out) v.le u.le c.le HV.out.le HW.out.le HV.out.n2).mono ?_;rintro r w2 ⟨rfl,hu⟩;have U2:=qq (U1.out.no hu);clear hu;have b2:w2.cell? ⟨w.heap.size,2,none⟩=some v.ou.v:=(HP.out.upd U2.out (fun h=>h)).cell 2;have d2:w2.cell? ⟨w.heap.size+1,2,none⟩=some u.ou.v:=(HQ.out.upd U2.out (fun h=>h)).cell 2;go_wp2_with fail
 refine (H.out _ (HUA.out.no U2.out) v.ou u.ou c.ou HV.out.ou HW.out.ou HV.out.n3).mono ?_;rintro r w3 ⟨rfl,hu⟩;have U3:=qq (U2.out.no hu);clear hu;have b3:w3.cell? ⟨w.heap.size,3,none⟩=some v.ne.v:=(HP.out.upd U3.out (fun h=>h)).cell 3;have d3:w3.cell? ⟨w.heap.size+1,3,none⟩=some u.ne.v:=(HQ.out.upd U3.out (fun h=>h)).cell 3;go_wp2_with fail
 refine (H.out _ (HUA.out.no U3.out) v.ne u.ne c.ne HV.out.ne HW.out.ne HV.out.n4).mono ?_;rintro r w4 ⟨rfl,hu⟩;have U4:=qq (U3.out.no hu);clear hu;have b4:w4.cell? ⟨w.heap.size,4,none⟩=some (.bool v.auto):=(HP.out.upd U4.out (fun h=>h)).cell 4;have d4:w4.cell? ⟨w.heap.size+1,4,none⟩=some (.bool u.auto):=(HQ.out.upd U4.out (fun h=>h)).cell 4;have hA:=HA.out;go_wp2;go_ret;exact ⟨by simp,HUA.out.no U4.out⟩
theorem same45 {v u:SnV} {c:Snap} (h1:v.Rd N w c) (h2:u.Rd N w c):
  Calls Tryz.prog 45 #[.agg #[.string v.data,.int .u64 v.index,.int .u64 v.term,.slice v.cf.vo.A v.cf.vo.n v.cf.vo.c,.slice v.cf.le.A v.cf.le.n v.cf.le.c,.slice v.cf.ou.A v.cf.ou.n v.cf.ou.c,.slice v.cf.ne.A v.cf.ne.n v.cf.ne.c,.bool v.cf.auto],.agg #[.string u.data,.int .u64 u.index,.int .u64 u.term,.slice u.cf.vo.A u.cf.vo.n u.cf.vo.c,.slice u.cf.le.A u.cf.le.n u.cf.le.c,.slice u.cf.ou.A u.cf.ou.n u.cf.ou.c,.slice u.cf.ne.A u.cf.ne.n u.cf.ne.c,.bool u.cf.auto]] w fun e w'=>e=.returned (.bool true)∧Upd No w w':=by
 have H:=qq fun (W:World) (hu:Upd No w W)=>same115 (h1.cf.fr hu.fr0) (h2.cf.fr hu.fr0);obtain ⟨wa,hwa⟩:∃W,(w.alloc (.cells #[.string v.data,.int .u64 v.index,.int .u64 v.term,v.cf.vo.v,v.cf.le.v,v.cf.ou.v,v.cf.ne.v,.bool v.cf.auto] 39)).alloc (.cells #[.string u.data,.int .u64 u.index,.int .u64 u.term,u.cf.vo.v,u.cf.le.v,u.cf.ou.v,u.cf.ne.v,.bool u.cf.auto] 39)=W:=⟨_,rfl⟩;have HUA:=qq (show Upd No w wa by rw [←hwa];exact ((Upd.refl No w).alloc _).alloc _);have HP:=qq (show Blk wa w.heap.size 39 #[.string v.data,.int .u64 v.index,.int .u64 v.term,v.cf.vo.v,v.cf.le.v,v.cf.ou.v,v.cf.ne.v,.bool v.cf.auto] by rw [←hwa];exact (Blk.new w _ _).alloc _);have HQ:=qq (show Blk wa (w.heap.size+1) 39 #[.string u.data,.int .u64 u.index,.int .u64 u.term,u.cf.vo.v,u.cf.le.v,u.cf.ou.v,u.cf.ne.v,.bool u.cf.auto] by rw [←hwa];exact Blk.new_ (by simp));have hd:v.data=u.data:=h1.data.trans h2.data.symm;have hi:v.index=u.index:=h1.index.trans h2.index.symm;have ht:v.term=u.term:=h1.term.trans h2.term.symm;have b0:wa.cell? ⟨w.heap.size,0,none⟩=some (.string v.data):=HP.out.cell 0;have d0:wa.cell? ⟨w.heap.size+1,0,none⟩=some (.string u.data):=HQ.out.cell 0;have b1:wa.cell? ⟨w.heap.size,1,none⟩=some (.int .u64 v.index):=HP.out.cell 1;have d1:wa.cell? ⟨w.heap.size+1,1,none⟩=some (.int .u64 u.index):=HQ.out.cell 1;have b2:wa.cell? ⟨w.heap.size,2,none⟩=some (.int .u64 v.term):=HP.out.cell 2;have d2:wa.cell? ⟨w.heap.size+1,2,none⟩=some (.int .u64 u.term):=HQ.out.cell 2
 have b3:wa.cell? ⟨w.heap.size,3,none⟩=some v.cf.vo.v:=HP.out.cell 3;have d3:wa.cell? ⟨w.heap.size+1,3,none⟩=some u.cf.vo.v:=HQ.out.cell 3;have b4:wa.cell? ⟨w.heap.size,4,none⟩=some v.cf.le.v:=HP.out.cell 4;have d4:wa.cell? ⟨w.heap.size+1,4,none⟩=some u.cf.le.v:=HQ.out.cell 4;have b5:wa.cell? ⟨w.heap.size,5,none⟩=some v.cf.ou.v:=HP.out.cell 5;have d5:wa.cell? ⟨w.heap.size+1,5,none⟩=some u.cf.ou.v:=HQ.out.cell 5;have b6:wa.cell? ⟨w.heap.size,6,none⟩=some v.cf.ne.v:=HP.out.cell 6;have d6:wa.cell? ⟨w.heap.size+1,6,none⟩=some u.cf.ne.v:=HQ.out.cell 6;have b7:wa.cell? ⟨w.heap.size,7,none⟩=some (.bool v.cf.auto):=HP.out.cell 7;have d7:wa.cell? ⟨w.heap.size+1,7,none⟩=some (.bool u.cf.auto):=HQ.out.cell 7;rw [hd] at b0;rw [hi] at b1;rw [ht] at b2;clear hd hi ht;clear h1 h2;go_enter Tryz.func45,Tryz.ntmps45;go_wp2_with fail
 refine (H.out _ HUA.out).mono ?_;rintro r w2 ⟨rfl,hu⟩;have U2:=qq (HUA.out.no hu);clear hu;go_wp2;go_ret;exact ⟨by simp,U2.out⟩
theorem same12 {V U:Ja} {A:LAns} (h1:V.Rd N w A) (h2:U.Rd N w A) (hes:V.es.n≤100000) (hcom:V.com=U.com) (hapg:V.apg=U.apg) (hapd:V.apd=U.apd) (hpz:V.paused=U.paused):
  Calls Tryz.prog 12 #[.agg V.cells,.agg U.cells] w fun e w'=>e=.returned (.bool true)∧Upd No w w':=by
 have H44:=qq fun (W:World) (hu:Upd No w W)=>same44 (h1.es.fr hu.fr0) (h2.es.fr hu.fr0) hes;have H45:=qq fun (W:World) (hu:Upd No w W)=>same45 (h1.sn.fr hu.fr0) (h2.sn.fr hu.fr0);obtain ⟨wa,hwa⟩:∃W,(w.alloc (.cells V.cells 48)).alloc (.cells U.cells 48)=W:=⟨_,rfl⟩;have HUA:=qq (show Upd No w wa by rw [←hwa];exact ((Upd.refl No w).alloc _).alloc _);have HP:=qq (show Blk wa w.heap.size 48 V.cells by rw [←hwa];exact (Blk.new w _ _).alloc _);have HQ:=qq (show Blk wa (w.heap.size+1) 48 U.cells by rw [←hwa];exact Blk.new_ (by simp));have U0:=qq (Upd.refl No wa);have HB0:=qq fun (W:World) (hu:Upd No wa W)=>(show W.cell? ⟨w.heap.size,0,none⟩=some (.int .i64 U.err) by rw [←(h1.err.trans h2.err.symm:V.err=U.err)];exact (HP.out.upd hu (fun h=>h)).cell 0);have HB1:=qq fun (W:World) (hu:Upd No wa W)=>(show W.cell? ⟨w.heap.size,1,none⟩=some (.int .u64 U.n) by rw [←(h1.n.trans h2.n.symm:V.n=U.n)];exact (HP.out.upd hu (fun h=>h)).cell 1);have HB2:=qq fun (W:World) (hu:Upd No wa W)=>(show W.cell? ⟨w.heap.size,2,none⟩=some (.int .u64 U.m) by rw [←(h1.m.trans h2.m.symm:V.m=U.m)];exact (HP.out.upd hu (fun h=>h)).cell 2);have HB3:=qq fun (W:World) (hu:Upd No wa W)=>(show W.cell? ⟨w.heap.size,3,none⟩=some (.bool U.flag) by rw [←(h1.flag.trans h2.flag.symm:V.flag=U.flag)];exact (HP.out.upd hu (fun h=>h)).cell 3)
 have HB4:=qq fun (W:World) (hu:Upd No wa W)=>(show W.cell? ⟨w.heap.size,4,none⟩=some (.int .u64 U.atT) by rw [←(h1.atT.trans h2.atT.symm:V.atT=U.atT)];exact (HP.out.upd hu (fun h=>h)).cell 4);have HB5:=qq fun (W:World) (hu:Upd No wa W)=>(show W.cell? ⟨w.heap.size,5,none⟩=some (.int .u64 U.atI) by rw [←(h1.atI.trans h2.atI.symm:V.atI=U.atI)];exact (HP.out.upd hu (fun h=>h)).cell 5);have HB6:=qq fun (W:World) (hu:Upd No wa W)=>(show W.cell? ⟨w.heap.size,6,none⟩=some V.es.v from (HP.out.upd hu (fun h=>h)).cell 6);have HB8:=qq fun (W:World) (hu:Upd No wa W)=>(show W.cell? ⟨w.heap.size,8,none⟩=some (.string V.sn.data) from (HP.out.upd hu (fun h=>h)).cell 8);have HB9:=qq fun (W:World) (hu:Upd No wa W)=>(show W.cell? ⟨w.heap.size,9,none⟩=some (.int .u64 V.sn.index) from (HP.out.upd hu (fun h=>h)).cell 9);have HB10:=qq fun (W:World) (hu:Upd No wa W)=>(show W.cell? ⟨w.heap.size,10,none⟩=some (.int .u64 V.sn.term) from (HP.out.upd hu (fun h=>h)).cell 10);have HB11:=qq fun (W:World) (hu:Upd No wa W)=>(show W.cell? ⟨w.heap.size,11,none⟩=some V.sn.cf.vo.v from (HP.out.upd hu (fun h=>h)).cell 11);have HB12:=qq fun (W:World) (hu:Upd No wa W)=>(show W.cell? ⟨w.heap.size,12,none⟩=some V.sn.cf.le.v from (HP.out.upd hu (fun h=>h)).cell 12);have HB13:=qq fun (W:World) (hu:Upd No wa W)=>(show W.cell? ⟨w.heap.size,13,none⟩=some V.sn.cf.ou.v from (HP.out.upd hu (fun h=>h)).cell 13)
 have HB14:=qq fun (W:World) (hu:Upd No wa W)=>(show W.cell? ⟨w.heap.size,14,none⟩=some V.sn.cf.ne.v from (HP.out.upd hu (fun h=>h)).cell 14);have HB15:=qq fun (W:World) (hu:Upd No wa W)=>(show W.cell? ⟨w.heap.size,15,none⟩=some (.bool V.sn.cf.auto) from (HP.out.upd hu (fun h=>h)).cell 15);have HB16:=qq fun (W:World) (hu:Upd No wa W)=>(show W.cell? ⟨w.heap.size,16,none⟩=some (.int .u64 U.com) by rw [←(hcom:V.com=U.com)];exact (HP.out.upd hu (fun h=>h)).cell 16);have HB17:=qq fun (W:World) (hu:Upd No wa W)=>(show W.cell? ⟨w.heap.size,17,none⟩=some (.int .u64 U.apg) by rw [←(hapg:V.apg=U.apg)];exact (HP.out.upd hu (fun h=>h)).cell 17);have HB18:=qq fun (W:World) (hu:Upd No wa W)=>(show W.cell? ⟨w.heap.size,18,none⟩=some (.int .u64 U.apd) by rw [←(hapd:V.apd=U.apd)];exact (HP.out.upd hu (fun h=>h)).cell 18);have HB19:=qq fun (W:World) (hu:Upd No wa W)=>(show W.cell? ⟨w.heap.size,19,none⟩=some (.bool U.paused) by rw [←(hpz:V.paused=U.paused)];exact (HP.out.upd hu (fun h=>h)).cell 19);have HB20:=qq fun (W:World) (hu:Upd No wa W)=>(show W.cell? ⟨w.heap.size,20,none⟩=some (.bool false) from (HP.out.upd hu (fun h=>h)).cell 20);have b0:wa.cell? ⟨w.heap.size,0,none⟩=some (.int .i64 U.err):=HB0.out wa U0.out;have d0:wa.cell? ⟨w.heap.size+1,0,none⟩=some (.int .i64 U.err):=(HQ.out.upd U0.out (fun h=>h)).cell 0;have b1:wa.cell? ⟨w.heap.size,1,none⟩=some (.int .u64 U.n):=HB1.out wa U0.out;have d1:wa.cell? ⟨w.heap.size+1,1,none⟩=some (.int .u64 U.n):=(HQ.out.upd U0.out (fun h=>h)).cell 1
 have b2:wa.cell? ⟨w.heap.size,2,none⟩=some (.int .u64 U.m):=HB2.out wa U0.out;have d2:wa.cell? ⟨w.heap.size+1,2,none⟩=some (.int .u64 U.m):=(HQ.out.upd U0.out (fun h=>h)).cell 2;have b3:wa.cell? ⟨w.heap.size,3,none⟩=some (.bool U.flag):=HB3.out wa U0.out;have d3:wa.cell? ⟨w.heap.size+1,3,none⟩=some (.bool U.flag):=(HQ.out.upd U0.out (fun h=>h)).cell 3;have b4:wa.cell? ⟨w.heap.size,4,none⟩=some (.int .u64 U.atT):=HB4.out wa U0.out;have d4:wa.cell? ⟨w.heap.size+1,4,none⟩=some (.int .u64 U.atT):=(HQ.out.upd U0.out (fun h=>h)).cell 4;have b5:wa.cell? ⟨w.heap.size,5,none⟩=some (.int .u64 U.atI):=HB5.out wa U0.out;have d5:wa.cell? ⟨w.heap.size+1,5,none⟩=some (.int .u64 U.atI):=(HQ.out.upd U0.out (fun h=>h)).cell 5;have b6:wa.cell? ⟨w.heap.size,6,none⟩=some V.es.v:=HB6.out wa U0.out;have d6:wa.cell? ⟨w.heap.size+1,6,none⟩=some U.es.v:=(HQ.out.upd U0.out (fun h=>h)).cell 6;have b20:wa.cell? ⟨w.heap.size,20,none⟩=some (.bool false):=HB20.out wa U0.out;have d20:wa.cell? ⟨w.heap.size+1,20,none⟩=some (.bool false):=(HQ.out.upd U0.out (fun h=>h)).cell 20;clear h1 h2 hes hcom hapg hapd hpz;go_enter Tryz.func12,Tryz.ntmps12;go_wp2_with fail
 clear hwa;refine (H44.out _ HUA.out).mono ?_;rintro r w1 ⟨rfl,hu⟩;have U1:=qq (U0.out.no hu);clear hu b0 d0 b1 d1 b2 d2 b3 d3 b4 d4 b5 d5 b6 d6 b20 d20;have b8:w1.cell? ⟨w.heap.size,8,none⟩=some (.string V.sn.data):=HB8.out w1 U1.out;have d8:w1.cell? ⟨w.heap.size+1,8,none⟩=some (.string U.sn.data):=(HQ.out.upd U1.out (fun h=>h)).cell 8;have b9:w1.cell? ⟨w.heap.size,9,none⟩=some (.int .u64 V.sn.index):=HB9.out w1 U1.out;have d9:w1.cell? ⟨w.heap.size+1,9,none⟩=some (.int .u64 U.sn.index):=(HQ.out.upd U1.out (fun h=>h)).cell 9;have b10:w1.cell? ⟨w.heap.size,10,none⟩=some (.int .u64 V.sn.term):=HB10.out w1 U1.out;have d10:w1.cell? ⟨w.heap.size+1,10,none⟩=some (.int .u64 U.sn.term):=(HQ.out.upd U1.out (fun h=>h)).cell 10;have b11:w1.cell? ⟨w.heap.size,11,none⟩=some V.sn.cf.vo.v:=HB11.out w1 U1.out;have d11:w1.cell? ⟨w.heap.size+1,11,none⟩=some U.sn.cf.vo.v:=(HQ.out.upd U1.out (fun h=>h)).cell 11;have b12:w1.cell? ⟨w.heap.size,12,none⟩=some V.sn.cf.le.v:=HB12.out w1 U1.out;have d12:w1.cell? ⟨w.heap.size+1,12,none⟩=some U.sn.cf.le.v:=(HQ.out.upd U1.out (fun h=>h)).cell 12;have b13:w1.cell? ⟨w.heap.size,13,none⟩=some V.sn.cf.ou.v:=HB13.out w1 U1.out;have d13:w1.cell? ⟨w.heap.size+1,13,none⟩=some U.sn.cf.ou.v:=(HQ.out.upd U1.out (fun h=>h)).cell 13;have b14:w1.cell? ⟨w.heap.size,14,none⟩=some V.sn.cf.ne.v:=HB14.out w1 U1.out;have d14:w1.cell? ⟨w.heap.size+1,14,none⟩=some U.sn.cf.ne.v:=(HQ.out.upd U1.out (fun h=>h)).cell 14
 have b15:w1.cell? ⟨w.heap.size,15,none⟩=some (.bool V.sn.cf.auto):=HB15.out w1 U1.out;have d15:w1.cell? ⟨w.heap.size+1,15,none⟩=some (.bool U.sn.cf.auto):=(HQ.out.upd U1.out (fun h=>h)).cell 15;go_wp2_with fail
 refine (H45.out _ (HUA.out.no U1.out)).mono ?_;rintro r w2 ⟨rfl,hu⟩;have U2:=qq (U1.out.no hu);clear hu b8 d8 b9 d9 b10 d10 b11 d11 b12 d12 b13 d13 b14 d14 b15 d15;have b16:w2.cell? ⟨w.heap.size,16,none⟩=some (.int .u64 U.com):=HB16.out w2 U2.out;have d16:w2.cell? ⟨w.heap.size+1,16,none⟩=some (.int .u64 U.com):=(HQ.out.upd U2.out (fun h=>h)).cell 16;have b17:w2.cell? ⟨w.heap.size,17,none⟩=some (.int .u64 U.apg):=HB17.out w2 U2.out;have d17:w2.cell? ⟨w.heap.size+1,17,none⟩=some (.int .u64 U.apg):=(HQ.out.upd U2.out (fun h=>h)).cell 17;have b18:w2.cell? ⟨w.heap.size,18,none⟩=some (.int .u64 U.apd):=HB18.out w2 U2.out;have d18:w2.cell? ⟨w.heap.size+1,18,none⟩=some (.int .u64 U.apd):=(HQ.out.upd U2.out (fun h=>h)).cell 18;have b19:w2.cell? ⟨w.heap.size,19,none⟩=some (.bool U.paused):=HB19.out w2 U2.out;have d19:w2.cell? ⟨w.heap.size+1,19,none⟩=some (.bool U.paused):=(HQ.out.upd U2.out (fun h=>h)).cell 19;go_wp2;go_ret;exact ⟨by simp,HUA.out.no U2.out⟩
end
def AllR (es:List Ent):Prop:=∀j,j<es.length→0≤(es.getD j default).term∧(es.getD j default).term<18446744073709551616∧0≤(es.getD j default).index∧(es.getD j default).index<18446744073709551616
structure SCall.In (c:SCall):Prop where
 a0:0≤c.a
 a1:c.a<18446744073709551616
 b0:0≤c.b
 b1:c.b<18446744073709551616
 c0:0≤c.c
 c1:c.c<18446744073709551616
 es:AllR c.es
 i0:0≤c.snap.index
 i1:c.snap.index<18446744073709551616
 t0:0≤c.snap.term
 t1:c.snap.term<18446744073709551616
structure LCall.In (c:LCall):Prop where
 a0:0≤c.a
 a1:c.a<18446744073709551616
 b0:0≤c.b
 b1:c.b<18446744073709551616
 c0:0≤c.c
 c1:c.c<18446744073709551616
 at0:0≤c.atT
 at1:c.atT<18446744073709551616
 ai0:0≤c.atI
 ai1:c.atI<18446744073709551616
 pt0:0≤c.pT
 pt1:c.pT<18446744073709551616
 pi0:0≤c.pI
 pi1:c.pI<18446744073709551616
 es:AllR c.es
 i0:0≤c.snap.index
 i1:c.snap.index<18446744073709551616
 t0:0≤c.snap.term
 t1:c.snap.term<18446744073709551616
 st:c.st.In
theorem shEs_len (es:List Ent):(shEs es).length≤60:=by unfold shEs;rw [List.length_map,List.length_take];omega
theorem AllR.short {es:List Ent} (h:AllR es):AllU (shEs es):=by
 intro j hj;have hj2:j<(es.take 60).length:=by unfold shEs at hj;rw [List.length_map] at hj;exact hj
 have hj3:j<es.length:=by rw [List.length_take] at hj2;omega
 have hj4:j<60:=by rw [List.length_take] at hj2;omega
 have he:(shEs es).getD j default=shE (es.getD j default):=by
  unfold shEs;rw [map_getD _ _ hj2,getD_take_lt hj4]
 rw [he];obtain ⟨h1,h2,h3,h4⟩:=h j hj3;have hk:=kind_bd (es.getD j default).kind;exact ⟨h1,h2,h3,h4,hk.1,hk.2,by show (ByteArray.extract _ _ _).size≤200;rw [ByteArray.size_extract];omega⟩
theorem shS_small (s:Snap):(shS s).small:=
 ⟨⟨by show (List.take 10 _).length≤10;rw [List.length_take];omega,by show (List.take 10 _).length≤10;rw [List.length_take];omega,by show (List.take 10 _).length≤10;rw [List.length_take];omega,by show (List.take 10 _).length≤10;rw [List.length_take];omega⟩,
  by show (ByteArray.extract _ _ _).size≤200;rw [ByteArray.size_extract];omega⟩
theorem SCall.In.short {c:SCall} (h:c.In):(shSC c).Ok:=⟨h.a0,h.a1,h.b0,h.b1,h.c0,h.c1,h.es.short,shEs_len _,h.i0,h.i1,h.t0,h.t1,shS_small _⟩
theorem LCall.In.short {c:LCall} (h:c.In):(shLC c).Ok:=⟨h.a0,h.a1,h.b0,h.b1,h.c0,h.c1,h.at0,h.at1,h.ai0,h.ai1,h.pt0,h.pt1,h.pi0,h.pi1,h.es.short,shEs_len _,h.i0,h.i1,h.t0,h.t1,shS_small _,h.st.short⟩
def LgL.CB (g:LgL):Prop:=0≤g.com∧g.com≤4611686018427687904
theorem LgL.append_com {g g':LgL} {l:List Ent} (h:g.append l=some g'):g'.com=g.com:=by
 unfold LgL.append at h;split at h
 ·cases h;rfl
 ·split at h
  ·cases h
  ·rcases ha:g.u.append l with _|u
   ·rw [ha] at h;cases h
   ·rw [ha] at h;cases h;rfl
theorem LgL.commit?_CB {g g':LgL} {n:Int} (h:g.commit? n=some g') (hp:g.Pre) (hb:g.CB):g'.CB:=by
 have hl:=hp.isSm.last_bd;obtain ⟨h1,h2⟩:=hb;unfold LgL.commit? at h;split at h
 ·cases h
 ·rename_i hn
  cases h;unfold LgL.CB LgL.commit;simp only;split
  ·rename_i hc;constructor
   ·omega
   ·have:¬g.last<n:=fun h=>hn ⟨hc,h⟩
    omega
  ·exact ⟨h1,h2⟩
theorem LgL.maybe_CB {g g':LgL} {c:LCall} {A:LAns} (h:g.maybe c=some (A,g')) (hp:g.Pre) (hc:c.Ok) (hn:g.u.es.length+60≤20000) (hb:g.CB):g'.CB:=by
 unfold LgL.maybe at h;split at h
 ·cases h
 split at h
 ·cases h;exact hb
 split at h
 ·split at h
  ·cases h
  ·rcases ha:g.append (c.es.drop (g.conflict c.es - c.pI - 1).toNat) with _|g1
   ·rw [ha] at h;cases h
   ·rw [ha] at h;have hp1:=(LgL.append_pre ha hp (hc.es.drop _) (by simp;have:=hc.len;omega) hn).1;have hb1:g1.CB:=by unfold LgL.CB;rw [LgL.append_com ha];exact hb
    change (g1.commit? _).map _=_ at h;rcases hq:g1.commit? (min c.b (c.pI+c.es.length)) with _|g2
    ·rw [hq] at h;cases h
    ·rw [hq] at h;cases h;exact LgL.commit?_CB hq hp1 hb1
 ·rcases hq:g.commit? (min c.b (c.pI+c.es.length)) with _|g2
  ·rw [hq] at h;cases h
  ·rw [hq] at h;cases h;exact LgL.commit?_CB hq hp hb
theorem LDo_CB {g g':LgL} {c:LCall} {A:LAns} (h:LDo g c=some (A,g')) (hp:g.Pre) (hc:c.Ok) (hn:g.u.es.length+60≤20000) (hb:g.CB):g'.CB:=by
 unfold LDo at h;by_cases hfar:farI≤c.a∨farI≤c.b∨farI≤c.atI
 ·rw [if_pos hfar] at h;cases h
 rw [if_neg hfar] at h;unfold farI at hfar;by_cases hk:c.kind=1
 ·rw [if_pos hk] at h;clear hk;rcases ha:g.append c.es with _|g1
  ·rw [ha] at h;cases h
  ·rw [ha] at h;cases h;unfold LgL.CB;rw [LgL.append_com ha];exact hb
 rw [if_neg hk] at h;clear hk;by_cases hk:c.kind=2
 ·rw [if_pos hk] at h;clear hk;exact LgL.maybe_CB h hp hc hn hb
 rw [if_neg hk] at h;clear hk;by_cases hk:c.kind=13
 ·rw [if_pos hk] at h;clear hk;rcases ha:g.commit? c.a with _|g1
  ·rw [ha] at h;cases h
  ·rw [ha] at h;cases h;exact LgL.commit?_CB ha hp hb
 rw [if_neg hk] at h;clear hk;by_cases hk:c.kind=14
 ·rw [if_pos hk] at h;clear hk;split at h
  ·cases h;have:=hc.ai0;unfold LgL.CB LgL.commit at*;simp only;split<;>omega
  ·cases h;exact hb
 rw [if_neg hk] at h;clear hk;by_cases hk:c.kind=18
 ·rw [if_pos hk] at h;clear hk;split at h
  ·cases h
  ·cases h;exact hb
 rw [if_neg hk] at h;clear hk;by_cases hk:c.kind=19
 ·rw [if_pos hk] at h;clear hk;split at h
  ·cases h
  ·cases h;exact hb
 rw [if_neg hk] at h;clear hk;by_cases hk:c.kind=23
 ·rw [if_pos hk] at h;clear hk;cases h;exact hb
 rw [if_neg hk] at h;clear hk;by_cases hk:c.kind=24
 ·rw [if_pos hk] at h;clear hk;cases h;exact hb
 rw [if_neg hk] at h;clear hk;by_cases hk:c.kind=25
 ·rw [if_pos hk] at h;clear hk;cases h;exact hb
 rw [if_neg hk] at h;clear hk;by_cases hk:c.kind=26
 ·rw [if_pos hk] at h;clear hk;split at h
  ·cases h
  ·rename_i h1
   unfold farI at h1;cases h;show 0≤c.snap.index∧c.snap.index≤_;omega
 rw [if_neg hk] at h;clear hk;by_cases hk:c.kind=34
 ·rw [if_pos hk] at h;clear hk;rcases ha:SDo g.s c.st with _|x
  ·rw [ha] at h;cases h
  ·rw [ha] at h;cases h;exact hb
 rw [if_neg hk] at h;clear hk;rw [LgL.ask_same h];exact hb
def gAt (g:LgL) (cs:List LCall):Nat→LgL
 |0=>g
 |k+1=>match LDo (gAt g cs k) (cs.getD k default) with
  |some x=>x.2
  |none=>gAt g cs k
def aAt (g:LgL) (cs:List LCall) (k:Nat):LAns:=match LDo (gAt g cs k) (cs.getD k default) with
 |some x=>x.1
 |none=>LAns.none
theorem gAt_step {g:LgL} {cs:List LCall} {k:Nat} {A:LAns} {g':LgL} (h:LDo (gAt g cs k) (cs.getD k default)=some (A,g')):gAt g cs (k+1)=g'∧aAt g cs k=A:=by
 unfold gAt aAt;rw [h];exact ⟨rfl,rfl⟩
def SaidTo (g:LgL) (cs:List LCall) (n:Nat):Prop:=∀k,k<n→LDo (gAt g cs k) (cs.getD k default)=some (aAt g cs k,gAt g cs (k+1))∧(gAt g cs (k+1)).wholeB=true
structure Good (g:LgL) (k:Nat):Prop where
 ok:g.Ok
 pre:g.Pre
 cb:g.CB
 ul:g.u.es.length≤60*k
 sl:g.s.L.length≤3600+60*k
theorem Good.step {g:LgL} {cs:List LCall} {k:Nat} (h:Good (gAt g cs k) k) (hc:(cs.getD k default).Ok) (hk:k<60) {A:LAns} {g':LgL} (hd:LDo (gAt g cs k) (cs.getD k default)=some (A,g')):g'.Pre∧g'.CB∧g'.u.es.length≤60*(k+1)∧g'.s.L.length≤3600+60*(k+1):=by
 have h1:=h.ul;have h2:=h.sl;obtain ⟨p1,p2⟩:=LDo_pre hd h.pre hc (by omega) (by omega);exact ⟨p1,LDo_CB hd h.pre hc (by omega) h.cb,by have:=p2.1;omega,by have:=p2.2;omega⟩
theorem SaidTo.good {g:LgL} {cs:List LCall} {n:Nat} (h:SaidTo g cs n) (h0:Good g 0) (hok:∀k,k<n→(cs.getD k default).Ok) (hn:n≤60):∀k,k≤n→Good (gAt g cs k) k
 |0,_=>h0
 |k+1,hk=>by
  obtain ⟨h1,h2⟩:=h k (by omega);obtain ⟨p1,p2,p3,p4⟩:=(SaidTo.good h h0 hok hn k (by omega)).step (hok k (by omega)) (by omega) h1;exact ⟨p1.ok_of h2,p1,p2,p3,p4⟩
theorem Good.fresh {s:StL} {size:Int} (hs:s.Ok) (hl:s.L.length≤3600) (h1:1≤size) (h2:size<4611686018427387904):Good (LgL.fresh s size) 0:=by
 obtain ⟨h3,h4⟩:=LgL.fresh_ok hs h1 h2;have h5:=h3.last_lt;have h6:=h3.c1;exact ⟨h3,h4,⟨hs.i0,by omega⟩,Nat.le_refl 0,by show s.L.length≤_;omega⟩
end Go.Proofs.YtmagnkjodjmojaaGreat
