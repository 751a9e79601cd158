/- A part of the proof of FnLog: laws and walks, with their conditions written at each. -/
import Derived.Test.YtmagnkjodjmojaaGreatQ45
set_option maxRecDepth 20000
set_option maxHeartbeats 4000000
set_option linter.all false
namespace Go.Proofs.YtmagnkjodjmojaaGreat
open Go.RowKit
def LAns.EsOk (A:LAns):Prop:=AllOk A.es∧A.es.length≤40000
theorem esNil {A:LAns} (h:A.es=[]):A.EsOk:=⟨by rw [h];exact fun j hj=>absurd hj (Nat.not_lt_zero _),by rw [h];exact Nat.zero_le _⟩
theorem SDo_es {s s':StL} {c:SCall} {A:SAns} (h:SDo s c=some (A,s')) (hs:s.Ok):AllOk A.es∧A.es.length≤40000:=by
 have nil:∀B:SAns,B.es=[]→AllOk B.es∧B.es.length≤40000:=fun B hB=>⟨by rw [hB];exact fun j hj=>absurd hj (Nat.not_lt_zero _),by rw [hB];exact Nat.zero_le _⟩;unfold SDo at h;by_cases hk:c.kind=1
 ·rw [if_pos hk] at h;clear hk;rcases hq:s.append c.es with _|s1
  ·rw [hq] at h;cases h
  ·rw [hq] at h;cases h;exact nil _ rfl
 rw [if_neg hk] at h;clear hk;by_cases hk:c.kind=2
 ·rw [if_pos hk] at h;clear hk;unfold StL.compact at h;split at h
  ·cases h;exact nil _ rfl
  split at h
  ·cases h
  ·cases h;exact nil _ rfl
 rw [if_neg hk] at h;clear hk;by_cases hk:c.kind=3
 ·rw [if_pos hk] at h;clear hk;unfold StL.create at h;split at h
  ·cases h;exact nil _ rfl
  split at h
  ·cases h
  ·cases h;exact nil _ rfl
 rw [if_neg hk] at h;clear hk;by_cases hk:c.kind=4
 ·rw [if_pos hk] at h;clear hk;unfold StL.apply at h;split at h
  ·cases h
  split at h
  ·cases h;exact nil _ rfl
  ·cases h;exact nil _ rfl
 rw [if_neg hk] at h;clear hk;by_cases hk:c.kind=5
 ·rw [if_pos hk] at h;clear hk;unfold StL.entries at h;split at h
  ·split at h
   ·cases h;exact nil _ rfl
   ·cases h
  split at h
  ·cases h
  ·cases h;exact ⟨AllOk.drop (AllOk.take (es:=s.L) hs.ok _) _,by show (List.drop _ (List.take _ s.L)).length≤_;have:=hs.len;simp;omega⟩
 rw [if_neg hk] at h;clear hk;by_cases hk:c.kind=6
 ·rw [if_pos hk] at h;clear hk;split at h
  ·cases h;exact nil _ rfl
  ·cases h
 rw [if_neg hk] at h;clear hk;by_cases hk:c.kind=7
 ·rw [if_pos hk] at h;clear hk;cases h;exact nil _ rfl
 rw [if_neg hk] at h;clear hk;by_cases hk:c.kind=8
 ·rw [if_pos hk] at h;clear hk;cases h;exact nil _ rfl
 rw [if_neg hk] at h;clear hk;by_cases hk:c.kind=9
 ·rw [if_pos hk] at h;clear hk;cases h;exact nil _ rfl
 rw [if_neg hk] at h;clear hk;cases h;exact nil _ rfl
theorem LgL.rangeB_es {g:LgL} (ho:g.Ok) {lo hi:Int} {es:List Ent} (h:g.rangeB lo hi=some es):AllOk es∧es.length≤40000:=by
 unfold LgL.rangeB at h;split at h
 ·cases h
 ·cases h;exact ⟨LgL.range_ok ho _ _,LgL.range_len ho _ _⟩
theorem LgL.cut_es {g g':LgL} (ho:g.Ok) {lo hi:Int} {A:LAns} (h:g.cut lo hi=some (A,g')):A.EsOk:=by
 unfold LgL.cut at h;split at h
 ·cases h
 split at h
 ·cases h;exact esNil rfl
 ·rcases hq:g.rangeB lo hi with _|es
  ·rw [hq] at h;cases h
  ·rw [hq] at h;cases h;exact LgL.rangeB_es ho hq
theorem LgL.ask_es {g g':LgL} {c:LCall} {A:LAns} (h:g.ask c=some (A,g')) (ho:g.Ok):A.EsOk:=by
 unfold LgL.ask at h;by_cases hk:c.kind=3
 ·rw [if_pos hk] at h;clear hk;split at h
  ·cases h;exact esNil rfl
  ·cases h
 rw [if_neg hk] at h;clear hk;by_cases hk:c.kind=4
 ·rw [if_pos hk] at h;clear hk;split at h
  ·cases h;exact esNil rfl
  ·cases h;exact esNil rfl
 rw [if_neg hk] at h;clear hk;by_cases hk:c.kind=5
 ·rw [if_pos hk] at h;clear hk;cases h;exact esNil rfl
 rw [if_neg hk] at h;clear hk;by_cases hk:c.kind=6
 ·rw [if_pos hk] at h;clear hk;cases h;exact esNil rfl
 rw [if_neg hk] at h;clear hk;by_cases hk:c.kind=7
 ·rw [if_pos hk] at h;clear hk;cases h;exact esNil rfl
 rw [if_neg hk] at h;clear hk;by_cases hk:c.kind=8
 ·rw [if_pos hk] at h;clear hk;split at h
  ·exact LgL.cut_es ho h
  ·cases h;exact esNil rfl
 rw [if_neg hk] at h;clear hk;by_cases hk:c.kind=9
 ·rw [if_pos hk] at h;clear hk;exact LgL.cut_es ho h
 rw [if_neg hk] at h;clear hk;by_cases hk:c.kind=10
 ·rw [if_pos hk] at h;clear hk;cases h;exact esNil rfl
 rw [if_neg hk] at h;clear hk;by_cases hk:c.kind=11
 ·rw [if_pos hk] at h;clear hk;cases h;exact esNil rfl
 rw [if_neg hk] at h;clear hk;by_cases hk:c.kind=12
 ·rw [if_pos hk] at h;clear hk;cases h;exact esNil rfl
 rw [if_neg hk] at h;clear hk;by_cases hk:c.kind=15
 ·rw [if_pos hk] at h;clear hk;unfold LgL.nextS at h;split at h
  ·cases h;exact esNil rfl
  split at h
  ·cases h;exact esNil rfl
  split at h
  ·cases h
  ·rcases hq:g.rangeB (g.apg+1) (g.most c.flag+1) with _|es
   ·rw [hq] at h;cases h
   ·rw [hq] at h;cases h;exact LgL.rangeB_es ho hq
 rw [if_neg hk] at h;clear hk;by_cases hk:c.kind=16
 ·rw [if_pos hk] at h;clear hk;cases h;exact esNil rfl
 rw [if_neg hk] at h;clear hk;by_cases hk:c.kind=17
 ·rw [if_pos hk] at h;clear hk;cases h;exact esNil rfl
 rw [if_neg hk] at h;clear hk;by_cases hk:c.kind=20
 ·rw [if_pos hk] at h;clear hk;cases h;exact ⟨AllOk.drop ho.u.allOk _,by show (List.drop _ g.u.es).length≤_;have:=ho.u.len;simp;omega⟩
 rw [if_neg hk] at h;clear hk;by_cases hk:c.kind=21
 ·rw [if_pos hk] at h;clear hk;cases h;exact esNil rfl
 rw [if_neg hk] at h;clear hk;by_cases hk:c.kind=22
 ·rw [if_pos hk] at h;clear hk;cases h;exact esNil rfl
 rw [if_neg hk] at h;clear hk;by_cases hk:c.kind=27
 ·rw [if_pos hk] at h;clear hk;split at h
  ·cases h;exact esNil rfl
  ·cases h;exact esNil rfl
 rw [if_neg hk] at h;clear hk;by_cases hk:c.kind=28
 ·rw [if_pos hk] at h;clear hk;cases h;exact esNil rfl
 rw [if_neg hk] at h;clear hk;by_cases hk:c.kind=29
 ·rw [if_pos hk] at h;clear hk;cases h;exact esNil rfl
 rw [if_neg hk] at h;clear hk;by_cases hk:c.kind=30
 ·rw [if_pos hk] at h;clear hk;cases h;exact esNil rfl
 rw [if_neg hk] at h;clear hk;by_cases hk:c.kind=31
 ·rw [if_pos hk] at h;clear hk;rcases hq:g.rangeB (g.first) (g.last+1) with _|es
  ·rw [hq] at h;cases h
  ·rw [hq] at h;cases h;exact LgL.rangeB_es ho hq
 rw [if_neg hk] at h;clear hk;cases h
theorem LDo_es {g g':LgL} {c:LCall} {A:LAns} (h:LDo g c=some (A,g')) (ho:g.Ok):A.EsOk:=by
 unfold LDo at h;by_cases hfar:farI≤c.a∨farI≤c.b∨farI≤c.atI
 ·rw [if_pos hfar] at h;cases h
 rw [if_neg hfar] at h;by_cases hk:c.kind=1
 ·rw [if_pos hk] at h;clear hk;rcases hq:g.append c.es with _|g1
  ·rw [hq] at h;cases h
  ·rw [hq] at h;cases h;exact esNil rfl
 rw [if_neg hk] at h;clear hk;by_cases hk:c.kind=2
 ·rw [if_pos hk] at h;clear hk;unfold LgL.maybe at h;split at h
  ·cases h
  split at h
  ·cases h;exact esNil rfl
  split at h
  ·split at h
   ·cases h
   ·rcases hq:g.append (c.es.drop (g.conflict c.es - c.pI - 1).toNat) with _|g1
    ·rw [hq] at h;cases h
    ·rw [hq] at h;change (g1.commit? _).map _=_ at h;rcases hq2:g1.commit? (min c.b (c.pI+c.es.length)) with _|g2
     ·rw [hq2] at h;cases h
     ·rw [hq2] at h;cases h;exact esNil rfl
  ·rcases hq:g.commit? (min c.b (c.pI+c.es.length)) with _|g2
   ·rw [hq] at h;cases h
   ·rw [hq] at h;cases h;exact esNil rfl
 rw [if_neg hk] at h;clear hk;by_cases hk:c.kind=13
 ·rw [if_pos hk] at h;clear hk;rcases hq:g.commit? c.a with _|g1
  ·rw [hq] at h;cases h
  ·rw [hq] at h;cases h;exact esNil rfl
 rw [if_neg hk] at h;clear hk;by_cases hk:c.kind=14
 ·rw [if_pos hk] at h;clear hk;split at h
  ·cases h;exact esNil rfl
  ·cases h;exact esNil rfl
 rw [if_neg hk] at h;clear hk;by_cases hk:c.kind=18
 ·rw [if_pos hk] at h;clear hk;split at h
  ·cases h
  ·cases h;exact esNil rfl
 rw [if_neg hk] at h;clear hk;by_cases hk:c.kind=19
 ·rw [if_pos hk] at h;clear hk;split at h
  ·cases h
  ·cases h;exact esNil rfl
 rw [if_neg hk] at h;clear hk;by_cases hk:c.kind=23
 ·rw [if_pos hk] at h;clear hk;cases h;exact esNil rfl
 rw [if_neg hk] at h;clear hk;by_cases hk:c.kind=24
 ·rw [if_pos hk] at h;clear hk;cases h;exact esNil rfl
 rw [if_neg hk] at h;clear hk;by_cases hk:c.kind=25
 ·rw [if_pos hk] at h;clear hk;cases h;exact esNil rfl
 rw [if_neg hk] at h;clear hk;by_cases hk:c.kind=26
 ·rw [if_pos hk] at h;clear hk;split at h
  ·cases h
  ·cases h;exact esNil rfl
 rw [if_neg hk] at h;clear hk;by_cases hk:c.kind=34
 ·rw [if_pos hk] at h;clear hk;rcases hq:SDo g.s c.st with _|⟨x1,x2⟩
  ·rw [hq] at h;cases h
  ·rw [hq] at h;cases h;exact SDo_es hq ho.s
 rw [if_neg hk] at h;clear hk;exact LgL.ask_es h ho
theorem LgL.limA_len (g:LgL) (c:LCall) (A:LAns):(g.limA c A).es.length≤A.es.length:=by
 unfold LgL.limA;split
 ·show (List.take _ _).length≤_;rw [List.length_take];omega
 split
 ·show (List.take _ _).length≤_;rw [List.length_take];omega
 split
 ·show (List.take _ _).length≤_;rw [List.length_take];omega
 ·exact Nat.le_refl _
section
variable {N:Nat} {w w':World}
theorem RdLC.takeS {sl:SlV} {V:Nat→Jc} {cs:List LCall} (h:RdLC N w sl V cs) {k:Nat} (hk:k≤cs.length):RdLC N w ⟨sl.A,k,sl.c⟩ V (cs.take k):=by
 have hl:=h.1.len;have hlk:(cs.take k).length=k:=by rw [List.length_take];omega
 refine ⟨⟨hlk,by have:=h.1.cap;simp only;omega,fun hn=>?_⟩,fun j hj=>?_⟩
 ·have hn:0<k:=hn;obtain ⟨b,o,hA,hi,hc⟩:=h.1.at_ (by omega);exact ⟨b,o,hA,hi,fun j i hj hi'=>hc j i (by have hj:j<k:=hj;omega) hi'⟩
 ·rw [hlk] at hj;rw [getD_take_lt hj];exact h.2 j (by omega)
theorem SRun_ok {B:List SCall} (hB:B.length≤60) (hok:∀j,j<B.length→(B.getD j default).Ok):∀(k:Nat) (s1:StL),k≤B.length→SRun StL.zero (B.take k)=some s1→s1.Ok∧s1.L.length≤60*k
 |0,s1,_,h=>by
  rw [List.take_zero] at h;cases h;exact ⟨StL.zero_ok,Nat.le_refl _⟩
 |k+1,s1,hk,h=>by
  rw [take_succ_getD (d:=default) (show k<B.length from hk),SRun_snoc] at h;rcases h0:SRun StL.zero (B.take k) with _|s0
  ·rw [h0] at h;cases h
  ·rw [h0] at h;obtain ⟨h1,h2⟩:=SRun_ok hB hok k s0 (by omega) h0;change (SDo s0 _).map (·.2)=some s1 at h;rcases h3:SDo s0 (B.getD k default) with _|⟨A1,s2⟩
   ·rw [h3] at h;cases h
   ·rw [h3] at h;cases h;obtain ⟨p1,p2⟩:=SDo_ok h3 h1 (hok k hk) (by omega);exact ⟨p1,by show s2.L.length≤_;omega⟩
theorem SRun_hrun {B:List SCall} (hB:B.length≤60) (hok:∀j,j<B.length→(B.getD j default).Ok) {s0:StL} (h:SRun StL.zero B=some s0):∀k s1,k<B.length→SRun StL.zero (B.take k)=some s1→s1.Ok∧∃x,SDo s1 (B.getD k default)=some x:=fun k s1 hk h1=>by
 refine ⟨(SRun_ok hB hok k s1 (by omega) h1).1,?_⟩;rcases h2:SDo s1 (B.getD k default) with _|x
 ·rw [SRun_stop h1 hk h2] at h;cases h
 ·exact ⟨x,rfl⟩
theorem Ka.lu {l:Nat} {A:StK} {B:TlK} {g:LgL} (h:Ka N w l A B g) (hu:Upd (LU N w) w w'):Ka N w' l A B g:=
 have hf:=LU.fr hu
 ⟨LU.blk hu h.blk rfl,⟨LU.blk hu h.st.blk rfl,h.st.cf.fr hf,h.st.L.fr hf,h.st.N⟩,⟨LU.blk hu h.tl.blk rfl,h.tl.cf.fr hf,h.tl.E.fr hf,h.tl.N⟩,h.N⟩
theorem Ja.size (v:Ja):v.cells.size=21:=rfl
theorem Ja.getE (V:Ja) {j:Nat} (hj:j<21):some (V.cells.getD j undef)=V.cells.toList[j]?:=by
 rw [Array.getElem?_toList,Array.getElem?_eq_getElem (show j<V.cells.size from hj)];simp [Array.getD,show j<V.cells.size from hj]
theorem flatA_at:∀(Vs:List Ja) (j i:Nat),j<Vs.length→i<21→(flatA Vs)[j*21+i]? =some ((Vs.getD j default).cells.getD i undef)
 |[],_,_,h,_=>absurd h (Nat.not_lt_zero _)
 |V::r,j,i,hj,hi=>by
  have e:flatA (V::r)=V.cells.toList++flatA r:=by simp [flatA]
  rw [e];rcases j with _|j
  ·rw [Nat.zero_mul,Nat.zero_add,List.getElem?_append_left (by rw [Array.length_toList];exact hi),Array.getElem?_toList,Array.getElem?_eq_getElem (show i<V.cells.size from hi)];simp [Array.getD,show i<V.cells.size from hi]
  ·rw [List.getElem?_append_right (by rw [Array.length_toList];show 21≤_;omega),Array.length_toList,show (j+1)*21+i - V.cells.size=j*21+i by show (j+1)*21+i - 21=_;omega,flatA_at r j i (by simpa using hj) hi];rfl
set_option maxHeartbeats 16000000 in
theorem fnLog3 {bs ls:SlV} {VB:Nat→Jd} {VL:Nat→Jc} {bl:List SCall} {cl:List LCall} {size:Int} (hN:N≤w.heap.size) (hNe:w.heap.size≤N) (hb:RawSC N w bs VB bl) (hbi:∀j,j<bl.length→(bl.getD j default).In)
  (hl:RawLC N w ls VL cl) (hli:∀j,j<cl.length→(cl.getD j default).In) (hz0:0≤size) (hz1:size<18446744073709551616):
  Calls Tryz.prog 3 #[.slice bs.A bs.n bs.c,.int .u64 size,.slice ls.A ls.n ls.c] w fun e w'=>e=.returned (.bool true)∧Upd No w w':=by
 have H4:=qq (fit4 (w:=w) hb);have H5:=qq fun (W:World) (hu:Upd No w W)=>fit5 (hl.fr hu.fr0);have H6:=qq fun (W:World) (hu:Upd No w W)=>short6 (hb.fr hu.fr0) (Nat.le_trans hN hu.size);have H7:=qq fun (W:World) (hu:Upd No w W)=>short7 (hl.fr hu.fr0) (Nat.le_trans hN hu.size);have hBl:(shSCs bl).length≤60:=by unfold shSCs;rw [List.length_map,List.length_take];omega
 have hCl:(shLCs cl).length≤60:=by unfold shLCs;rw [List.length_map,List.length_take];omega
 have hBok:∀j,j<(shSCs bl).length→((shSCs bl).getD j default).Ok:=fun j hj=>by
  unfold shSCs at hj ⊢;rw [List.length_map,List.length_take] at hj;rw [map_getD _ _ (by rw [List.length_take];exact hj),getD_take_lt (by omega)];exact (hbi j (by omega)).short
 have hCok:∀j,j<(shLCs cl).length→((shLCs cl).getD j default).Ok:=fun j hj=>by
  unfold shLCs at hj ⊢;rw [List.length_map,List.length_take] at hj;rw [map_getD _ _ (by rw [List.length_take];exact hj),getD_take_lt (by omega)];exact (hli j (by omega)).short
 generalize shSCs bl=B at*;generalize shLCs cl=C at*;have H8:=qq fun (W:World) (t:SlV) (V:Nat→Jd) (ht:RdSC N W t V B) (hu:Upd No w W)=>logOf8 (size:=size) ht hBl hBok (Nat.le_trans hN hu.size);have HBL:=qq hBl;have HCL:=qq hCl;have HBO:=qq hBok;have HCO:=qq hCok;have HNN:=qq hN;have HNE:=qq hNe;clear hN hNe hb hbi hl hli hBl hCl hBok hCok;go_enter Tryz.func3,Tryz.ntmps3;go_wp2_with fail
 refine H4.out.mono ?_;rintro r w1 ⟨b,rfl,hu⟩;have U1:=qq hu;clear hu;rcases b with _|_
 ·go_wp2;go_ret;exact ⟨rfl,U1.out⟩
 go_wp2_with fail
 refine (H5.out _ U1.out).mono ?_;rintro r w2 ⟨b,rfl,hu⟩;have U2:=qq (U1.out.no hu);clear hu;rcases b with _|_
 ·go_wp2;go_ret;exact ⟨rfl,U2.out⟩
 go_wp2_with fail
 refine (H6.out _ U2.out).mono ?_;rintro r w3 ⟨tb,Vb,rfl,hr,hu⟩;have U3:=qq (U2.out.no hu);have RB:=qq hr;clear hr hu;go_wp2_with fail
 refine (H7.out _ U3.out).mono ?_;rintro r w4 ⟨tc,Vc,rfl,hr,hu⟩;have U4:=qq (U3.out.no hu);have RB:=qq (RB.out.fr hu.fr0);have RC:=qq hr;clear hr hu;go_wp2_with fail
 refine (H8.out _ tb Vb RB.out U4.out).mono ?_;intro r w5 hr;rcases hr with ⟨_,rfl,hu⟩|⟨s0,l,A,TB,hrun,hso,hsl,rfl,hx,ha1,ha2,ha3,hu⟩
 ·have U5:=qq (U4.out.no hu);clear hu;go_wp2;go_ret;exact ⟨rfl,U5.out⟩
 obtain ⟨d,hd⟩:∃d,d=(decide (0<size) && decide (size<4611686018427387904)):=⟨_,rfl⟩;rw [←hd];have HD:=qq hd;have U5:=qq (U4.out.no hu);have RB:=qq (RB.out.fr hu.fr0);have RC:=qq (RC.out.fr hu.fr0);have HX:=qq hx;have HXN:=qq (And.intro (Nat.le_trans U4.out.size ha1) (And.intro (Nat.le_trans U4.out.size ha2) (Nat.le_trans U4.out.size ha3)));have HRUN:=qq hrun;have HSO:=qq (And.intro hso hsl);clear hd hu hx ha1 ha2 ha3 hrun hso hsl;rcases d with _|_
 ·go_wp2;go_ret;exact ⟨rfl,U5.out⟩
 have HG0:=qq (show Good (LgL.fresh s0 size) 0 from by
  have h:=HD.out.symm;simp only [Bool.and_eq_true,decide_eq_true_eq] at h
  exact Good.fresh HSO.out.1 HSO.out.2 (by omega) h.2)
 go_wp2_with fail
 refine (H6.out _ U5.out).mono ?_;rintro r w6 ⟨tb2,Vb2,rfl,hr,hu⟩;have U6:=qq (U5.out.no hu);have RB2:=qq hr;have RB:=qq (RB.out.fr hu.fr0);have RC:=qq (RC.out.fr hu.fr0);have HX:=qq (HX.out.no hu);clear hr hu;go_wp2_with fail
 refine (H8.out _ tb2 Vb2 RB2.out U6.out).mono ?_;intro r w7 hr;rcases hr with ⟨hno,rfl,hu⟩|⟨s1,l2,A2,TB2,hrun,hso,hsl,rfl,hx,ha1,ha2,ha3,hu⟩
 ·rw [HRUN.out] at hno;cases hno
 obtain rfl:s0=s1:=by rw [HRUN.out] at hrun;cases hrun;rfl
 have U67:=qq hu;have HX2:=qq hx;have HX2N:=qq (And.intro ha1 (And.intro ha2 ha3));clear hx ha1 ha2 ha3 hrun hso hsl hu;go_wp2_with fail
 refine (H7.out _ (U6.out.no U67.out)).mono ?_;rintro r w8 ⟨tc2,Vc2,rfl,hr,hu⟩;have U68:=qq (U67.out.no hu);have RC2:=qq hr;have HX2:=qq (HX2.out.no hu);have HCN:=qq (show tc2.n=C.length from hr.1.len.symm);have hcn60:tc2.n≤60:=by have:=HCN.out;have:=HCL.out;omega
 clear hr hu U67;have HS0:=qq (And.intro HRUN.out HSO.out);generalize hg0:LgL.fresh s0 size=g0 at*;have HG00:=qq hg0;clear hg0;go_upto_block 0 with fail
 go_cut [13,51,53] (fun sd _ _ W=>∃n:Nat,n≤C.length∧sd=.int .i64 (n:Nat)∧Hid (SaidTo g0 C n)∧Hid (Upd No w6 W))
 case first=>
  have HUS:=qq fun (W:World) (hu:Upd (spS l2 A2 TB2) w8 W)=>(show Upd No w6 W from U68.out.trans hu (by
   intro j hj;have h:=HX2N.out;rcases hj with rfl|rfl|rfl
   ·exact .inr h.2.2
   ·exact .inr h.1
   ·exact .inr h.2.1))
  have HFS:=qq fun (W:World) (hu:Upd (spS l2 A2 TB2) w8 W)=>HX2.out.fr_s hu;go_wp2_with fail
  go_loopw [13,53] (fun sd i wr=>∃(k:Nat) (A':StK) (B':TlK),k≤C.length∧sd=.int .i64 (k:Nat)∧i=.int .i64 (k:Nat)∧A'.b=A2.b∧B'.b=TB2.b∧Hid (SaidTo g0 C k)∧Hid (Ka N wr l2 A' B' (gAt g0 C k))∧Hid (Upd (spS l2 A2 TB2) w8 wr)) (fun _ i _=>tc2.n - (intOf i).toNat)
  case atStart=>exact ⟨0,A2,TB2,Nat.zero_le _,rfl,rfl,rfl,rfl,qq (fun k hk=>absurd hk (Nat.not_lt_zero _)),HX2,qq (Upd.refl _ w8)⟩
  case round=>
   obtain ⟨k,A',B',hk,rfl,rfl,hA',hB',hsd,hlg,hu⟩:=hrel;by_cases hlt:k<tc2.n
   ·have hkc:k<C.length:=by have:=HCN.out;omega
    have HRC:=RC2.out.fr (HFS.out wr hu.out);obtain ⟨b,o,hA,_,hc⟩:=HRC.1.at_ (by omega);have hvk:=HRC.2 k hkc;have hck:=HCO.out k hkc;have HR:=qq (show wr.rangeAt b (o+k*34) (Vc2 k).cells.toList from range_of rfl (fun i hi=>hc k i hlt hi));have hgd:=hsd.out.good HG0.out (fun j hj=>HCO.out j (by omega)) (by have:=HCL.out;omega) k (Nat.le_refl k);have HGD:=qq hgd
    have HSTEP:=qq fun (A1:LAns) (g1:LgL) (hd:LDo (gAt g0 C k) (C.getD k default)=some (A1,g1))=>(show gAt g0 C (k+1)=g1∧(g1.wholeB=true→SaidTo g0 C (k+1))∧g1.Pre∧g1.CB from by
     obtain ⟨e1,e2⟩:=gAt_step hd;obtain ⟨p1,p2,_,_⟩:=hgd.step hck (by have:=HCL.out;omega) hd;refine ⟨e1,fun hw j hj=>?_,p1,p2⟩;rcases Nat.lt_or_ge j k with h1|h1
     ·exact hsd.out j h1
     ·obtain rfl:j=k:=by omega
      rw [e1,e2]
      exact ⟨hd,hw⟩)
    have HVK:=qq hvk;have HCK:=qq hck;generalize hvv:Vc2 k=v at*;have HDO:=qq fun (W:World) (hu2:Upd No wr W)=>spDo (hlg.out.no hu2) HGD.out.pre HGD.out.ok (by have:=HGD.out.ul;have:=HCL.out;omega) (HVK.out.fr hu2.fr0) HCK.out;generalize C.getD k default=c at*;generalize gAt g0 C k=gk at*;have HVV:=qq hvv;have HAA:=qq (And.intro hA' hB');have HI:=qq (show (Tryz.prog.info? 45).map (·.size)=some v.cells.toList.length from (by kernel_rfl:(Tryz.prog.info? 45).map (·.size)=some 34));have HBZ:=qq (show Blk (wr.alloc (.cells Z45 45)) wr.heap.size 45 Z45 from Blk.new _ _ _);have HU0:=qq (show Upd No wr (wr.alloc (.cells Z45 45)) from (Upd.refl No wr).alloc _);have HSZ:=qq (show (Z45:Array Value).size=v.cells.size from rfl);have HI2:=qq v.inf;have HON:=qq v.one;obtain ⟨wz,hwz⟩:∃W,W=wr.alloc (.cells Z45 45):=⟨_,rfl⟩;rw [←hwz] at HBZ HU0;have HWZ:=qq hwz;rw [hA];clear hwz hc hvk hck hgd hvv hA' hB' HRC
    go_wp2_with (first
     |(with_reducible refine load_midA rfl 45 (.tmp 55) rfl b (o+k*34) rfl v.cells _ HR.out Tryz.underlying45 rfl HI.out ?_)
     |(rw [←HWZ.out]
       with_reducible refine Jk rfl 45 (.tmp 15) (.tmp 56) rfl wr.heap.size v.cells rfl rfl 45 Z45 HBZ.out HI2.out HSZ.out HON.out ?_;intro w9 hb9 hu9;have HB9:=qq hb9;have HU9:=qq (show Upd No wr w9 from HU0.out.trans hu9 (by rintro k rfl;exact .inr (Nat.le_refl _)))
       clear hb9 hu9)
     |(with_reducible refine Jm rfl 45 (.tmp 15) rfl wr.heap.size v.cells rfl 45 _ HB9.out Tryz.underlying45 rfl HI2.out ?_)
     |fail)
    refine (HDO.out w9 HU9.out).mono ?_;rintro r wa ⟨An,bb,A3,B3,g3,rfl,hA3,hB3,hL3,hu3,h1,h2⟩;have HL3:=qq hL3;have HAB:=qq (And.intro (hA3.trans HAA.out.1) (hB3.trans HAA.out.2));have HU3:=qq (show Upd (spS l2 A2 TB2) w8 wa from (hu.out.no HU9.out).Ke (hu3.mono fun j hj=>by unfold spS at*;rw [HAA.out.1,HAA.out.2] at hj;exact hj));have H3:=qq (And.intro h1 h2);have HBN:=qq (show Blk (wa.alloc (.cells Z48 48)) wa.heap.size 48 Z48 from Blk.new _ _ _);have HINF:=qq An.inf;have HONE:=qq An.one;have HSZ2:=qq (show (Z48:Array Value).size=An.cells.size from rfl);clear hA3 hB3 hL3 hu3 h1 h2
    go_upto_region 13 with (first
     |(with_reducible refine Jk rfl 48 (.tmp 16) (.tmp 61) rfl wa.heap.size An.cells rfl rfl 48 Z48 HBN.out HINF.out HSZ2.out HONE.out ?_
       intro wb hb3 hu4;have HUB:=qq (show Upd No wa wb from ((Upd.refl No wa).alloc _).trans hu4 (by rintro j rfl;exact .inr (Nat.le_refl _)))
       clear hb3 hu4)
     |fail)
    rcases bb with _|_
    ·go_wp2_with fail
     go_meet
     exact ⟨k,by omega,rfl,hsd,qq (HUS.out _ (HU3.out.no HUB.out))⟩
    ·obtain ⟨x1,x2,hq⟩:∃x1 x2,LDo gk c=some (x1,x2):=by
      rcases hq:LDo gk c with _|⟨x1,x2⟩
      ·have:=H3.out.1 hq;cases this
      ·exact ⟨x1,x2,rfl⟩
     obtain rfl:g3=x2:=(H3.out.2 x1 x2 hq).2.2;have HST:=qq (HSTEP.out x1 g3 hq);have HW:=qq (spWhole (HL3.out.no HUB.out) HST.out.2.2.1 HST.out.2.2.2.1 (by have:=HST.out.2.2.2.2;omega));clear hq;go_wp2_with fail
     refine HW.out.mono ?_;rintro r wc2 ⟨rfl,hu5⟩;have HU5:=qq (HUB.out.no hu5);clear hu5;rcases hw:g3.wholeB with _|_
     ·clear hw;go_wp2_with fail
      go_meet
      exact ⟨k,by omega,rfl,hsd,qq (HUS.out _ (HU3.out.no HU5.out))⟩
     ·have HSD:=qq (HST.out.2.1 hw);have HE1:=qq HST.out.1;clear hw;go_wp2;exact ⟨⟨k+1,A3,B3,by omega,by simp,by simp,HAB.out.1,HAB.out.2,HSD,qq (HE1.out ▸HL3.out.no HU5.out),qq (HU3.out.no HU5.out)⟩,by simp [intOf];omega⟩
   ·go_wp2_with fail
    go_meet
    exact ⟨k,hk,rfl,hsd,qq (HUS.out _ hu.out)⟩
 case rest=>
  obtain ⟨n,hn,rfl,hsd,hu⟩:=hcut;have UW:=qq (U6.out.no hu.out);have RB:=qq (RB.out.fr hu.out.fr0);have RC:=qq (RC.out.fr hu.out.fr0);have HX:=qq (HX.out.no hu.out);have HTC:=qq (RdLC.takeS RC.out hn);have hlt:(C.take n).length=n:=by rw [List.length_take];omega
  have HGD:=qq (hsd.out.good HG0.out (fun j hj=>HCO.out j (by omega)) (by have:=HCL.out;omega));have HSD:=qq hsd.out;have hn60:n≤60:=by have:=HCL.out;omega
  have hnc:n≤tc.c:=by have:=RC.out.1.len;have:=RC.out.1.cap;omega
  have hnci:(n:Int)≤(tc.c:Int):=by omega
  have HCM:∀k,k<n→(C.take n).getD k default=C.getD k default:=fun k hk=>getD_take_lt hk
  have HLR:=qq (logRun (N:=N) (size:=size) (gs:=gAt g0 C) (As:=fun k=>(gAt g0 C k).limA (C.getD k default) (aAt g0 C k)) (Nat.le_trans HNN.out UW.out.size) RB.out (by have:=HBL.out;omega) HBO.out (SRun_hrun HBL.out HBO.out HS0.out.1) HS0.out.1 HS0.out.2.1 HG00.out.symm HTC.out (by rw [hlt];omega)
   (fun k hk W J v r hR hr hv=>by
    rw [hlt] at hk;rw [HCM k hk] at hv
    exact lgAny hR (HGD.out k (by omega)).ok (HGD.out (k+1) (by omega)).ok hr hv (HCO.out k (by omega)) (HSD.out k hk).1))
  rw [hlt] at HLR;have HNC:=qq hn;clear hu hsd hlt HCM hn hnc;go_wp2_with fail
  refine HLR.out.mono ?_;rintro r wd ⟨g,cap,Vs,rfl,hown,hans,hu⟩;have UD:=qq (show Upd No w wd from UW.out.trans hu (fun j hj=>.inr (Nat.le_trans HNE.out hj.1)));have RC:=qq (RC.out.fr (LU.fr hu));have HX:=qq (HX.out.lu hu);have HANS:=qq hans;obtain ⟨g',cap',cur,he,_,hbg,hcap,hrow⟩:=own_block hown (by intro h;cases h);injection he with e1 e2 e3
  injection e1 with e1
  injection e1 with e1
  subst e1;have HBG:=qq hbg;have hcap:n+1≤cap:=by rw [e3];exact hcap
  have HROW:=qq (show ∀j i,j<n+1→i<21→cur[j*21+i]? =some ((Vs.getD j default).cells.getD i undef) from fun j i hj hi=>by
   have h1:=hrow j i hj hi;rw [h1]
   exact congrArg some (show (flatA Vs).getD (j*21+i) undef=(Vs.getD j default).cells.getD i undef by rw [List.getD_eq_getElem?_getD,flatA_at Vs j i (by have:=hans.1;omega) hi,Option.getD_some]))
  have HE0:=qq (show (gAt g0 C 0)=g0 from rfl);have h00:=hans.2.1;have q20:wd.cell? ⟨g,20,none⟩=some (.bool false):=by rw [hbg.cell,show 20=0*21+20 from rfl,HROW.out 0 20 (by omega) (by omega),h00];rfl
  have q16:wd.cell? ⟨g,16,none⟩=some (.int .u64 g0.com):=by rw [hbg.cell,show 16=0*21+16 from rfl,HROW.out 0 16 (by omega) (by omega),h00];rfl
  have q17:wd.cell? ⟨g,17,none⟩=some (.int .u64 g0.apg):=by rw [hbg.cell,show 17=0*21+17 from rfl,HROW.out 0 17 (by omega) (by omega),h00];rfl
  have q18:wd.cell? ⟨g,18,none⟩=some (.int .u64 g0.apd):=by rw [hbg.cell,show 18=0*21+18 from rfl,HROW.out 0 18 (by omega) (by omega),h00];rfl
  have q19:wd.cell? ⟨g,19,none⟩=some (.bool false):=by rw [hbg.cell,show 19=0*21+19 from rfl,HROW.out 0 19 (by omega) (by omega),h00];show some (Value.bool g0.paused)=_;rw [←HG00.out];rfl
  have k2:wd.cell? ⟨l,2,none⟩=some (.int .u64 g0.com):=HX.out.c 2;have k3:wd.cell? ⟨l,3,none⟩=some (.int .u64 g0.apg):=HX.out.c 3;have k4:wd.cell? ⟨l,4,none⟩=some (.int .u64 g0.apd):=HX.out.c 4;have hnz:(((n:Int)+1)==0)=false:=beq_eq_false_iff_ne.2 (by omega);have hn0:0<n+1:=Nat.succ_pos n;clear hown hans hu hbg hrow h00 e2 e3;go_wp2_with fail
  go_quiet (fail)
  obtain ⟨we,hwe⟩:∃W,W=wd.drewN nq:=⟨_,rfl⟩;have UE0:=qq (show Upd No wd we by rw [hwe];exact (Upd.refl No wd).drewN nq);rw [←hwe];have UE:=qq (UD.out.no UE0.out);have RC:=qq (RC.out.fr UE0.out.fr0);have HX:=qq (HX.out.no UE0.out);have HANS:=qq (HANS.out.fr UE0.out.fr0);have HBG:=qq (HBG.out.upd UE0.out (fun h=>h));have HFS:=qq fun (W:World) (hu:Upd (spS l A TB) we W)=>HX.out.fr_s hu
  have HBW:=qq fun (W:World) (hu:Upd (spS l A TB) we W)=>(show Blk W g 48 cur from HBG.out.upd hu (by
   intro hk;rcases hk with e|e|e
   ·exact HBG.out.ne_ HX.out.blk (by decide) e
   ·exact HBG.out.ne_ HX.out.st.blk (by decide) e
   ·exact HBG.out.ne_ HX.out.tl.blk (by decide) e))
  have HUW:=qq fun (W:World) (hu:Upd (spS l A TB) we W)=>(show Upd No w W from UE.out.trans hu (by
   intro j hj;have h:=HXN.out;rcases hj with rfl|rfl|rfl
   ·exact .inr h.2.2
   ·exact .inr h.1
   ·exact .inr h.2.1))
  clear hwe q16 q17 q18 q19 q20 k2 k3 k4;go_wp2_with fail
  go_loopw [130] (fun i wr=>∃(k:Nat) (A':StK) (B':TlK),k≤n∧i=.int .i64 (k:Nat)∧A'.b=A.b∧B'.b=TB.b∧Hid (Ka N wr l A' B' (gAt g0 C k))∧Hid (Upd (spS l A TB) we wr)) (fun i _=>n - (intOf i).toNat)
  case atStart=>exact ⟨0,A,TB,Nat.zero_le _,rfl,rfl,rfl,HX,qq (Upd.refl _ we)⟩
  case round=>
   obtain ⟨k,A',B',hk,rfl,hA',hB',hlg,hu⟩:=hrel;by_cases hlt:k<n
   ·have hkc:k<C.length:=by have:=HNC.out;omega
    obtain ⟨b,o,hA,hi,hc⟩:=RC.out.1.at_ (by have:=RC.out.1.len;omega);have hkn:k<tc.n:=by have:=RC.out.1.len;omega
    have HRB:=qq fun (W:World) (hu2:Upd (spS l A TB) we W)=>(show W.rangeAt b (o+k*34) (Vc k).cells.toList from fun j u hj=>(HFS.out W hu2).cell hi (range_of (wr:=we) (sz:=34) (cs:=(Vc k).cells) rfl (fun i hi=>hc k i hkn hi) j u hj));have HVK:=qq (RC.out.2 k hkc);have HCK:=qq (HCO.out k hkc);have HGK:=qq (HGD.out k (by omega));have HGK1:=qq (HGD.out (k+1) (by omega));have HDK:=qq (HSD.out k hlt);have HES:=qq (LDo_es (HSD.out k hlt).1 (HGD.out k (by omega)).ok);obtain ⟨UU,hu1,hu2⟩:=HANS.out.2.2 k hlt
    have HRG:=qq fun (W:World) (hu2:Upd (spS l A TB) we W)=>(show W.rangeAt g ((k+1)*21) (Vs.getD (k+1) default).cells.toList from
     (HBW.out W hu2).rangeIn (n:=21) (fun j hj=>by
      rw [HROW.out (k+1) j (by omega) hj,Ja.getE _ hj]) rfl)
    rw [hu1] at HRG;have HUU:=qq (show UU.Rd N we ((gAt g0 C k).limA (C.getD k default) (aAt g0 C k)) from hu2);clear hu1 hu2 hc;generalize hvv:Vc k=v at*;generalize C.getD k default=c at*;generalize gAt g0 C k=gk at*;generalize hgk1:gAt g0 C (k+1)=gk1 at*;have HGE:=qq hgk1;clear hgk1;generalize aAt g0 C k=Ak at*;have HVV:=qq hvv;have HAA:=qq (And.intro hA' hB');have HDO:=qq fun (W:World) (hu2:Upd No wr W)=>spDo (hlg.out.no hu2) HGK.out.pre HGK.out.ok (by have:=HGK.out.ul;omega) ((HVK.out.fr (HFS.out wr hu.out)).fr hu2.fr0) HCK.out;have HI:=qq (show (Tryz.prog.info? 45).map (·.size)=some v.cells.toList.length from (by kernel_rfl:(Tryz.prog.info? 45).map (·.size)=some 34));have k5:wr.cell? ⟨l,5,none⟩=some (.int .u64 gk.size):=hlg.out.c 5;have k6:wr.cell? ⟨l,6,none⟩=some (.int .u64 gk.usg):=hlg.out.c 6;obtain ⟨lf,hlf⟩:∃x,x=gk.size - min gk.size gk.usg:=⟨_,rfl⟩
    have HLF:=qq (show lf=gk.size - min gk.size gk.usg∧0≤lf∧lf<18446744073709551616 from by
     have:=HGK.out.pre.z1;have:=HGK.out.pre.z2;have:=HGK.out.pre.g0
     exact ⟨hlf,by omega,by omega⟩)
    have jl:IntKind.u64.wrap (gk.size - min gk.size gk.usg)=lf:=by
     have:=HLF.out
     rw [←hlf];simp [IntKind.wrap_u64];omega
    have j2:((k:Int)+1).toNat=k+1:=by omega
    have jle:decide ((n:Int)+1≤(k:Int)+1)=false:=decide_eq_false (by omega);have jle2:decide ((n:Int)≤(k:Int))=false:=decide_eq_false (by omega);have j00:0≤(k:Int)+1:=by omega
    have jwk:IntKind.i64.wrap ((k:Int)+1)=(k:Int)+1:=by simp [IntKind.wrap_i64];omega
    have jle3:decide (n≤k)=false:=decide_eq_false (by omega);have jlt1:(k:Int)+1<(n:Int)+1:=by omega
    have jlt2:k+1<n+1:=by omega
    rw [hA];clear hvv hA' hB' hlf hi;go_wp2_with fail
    go_quiet (fail)
    obtain ⟨wq,hwq⟩:∃W,W=wr.drewN nq:=⟨_,rfl⟩;have UQ:=qq (show Upd No wr wq by rw [hwq];exact (Upd.refl No wr).drewN nq);rw [←hwq];clear hwq k5 k6;have HRQ:=qq (HRB.out wq (hu.out.no UQ.out))
    go_wp2_with (first
     |(with_reducible refine load_midA rfl 45 (.tmp 151) rfl b (o+k*34) rfl v.cells _ HRQ.out Tryz.underlying45 rfl HI.out ?_)
     |fail)
    refine (HDO.out wq UQ.out).mono ?_;rintro r wa ⟨An,bb,A3,B3,g3,rfl,hA3,hB3,hL3,hu3,h1,h2⟩;obtain ⟨rfl,⟨UX,hUX,hRX⟩,rfl⟩:=h2 _ _ HDK.out.1;have HL3:=qq hL3;have HAB:=qq (And.intro (hA3.trans HAA.out.1) (hB3.trans HAA.out.2));have HU3:=qq (show Upd (spS l A TB) we wa from (hu.out.no UQ.out).Ke (hu3.mono fun j hj=>by unfold spS at*;rw [HAA.out.1,HAA.out.2] at hj;exact hj));have HRX:=qq (show An.Rd N wa Ak from by rw [hUX];exact ⟨hRX.err,hRX.n,hRX.m,hRX.flag,hRX.atT,hRX.atI,hRX.es,hRX.sn⟩);have HCOM:=qq (show (UU.beh g3).com=An.com∧(UU.beh g3).apg=An.apg∧(UU.beh g3).apd=An.apd∧(UU.beh g3).paused=An.paused from by rw [hUX];exact ⟨rfl,rfl,rfl,rfl⟩);have HBN:=qq (show Blk (wa.alloc (.cells Z48 48)) wa.heap.size 48 Z48 from Blk.new _ _ _);have HINF:=qq An.inf;have HONE:=qq An.one;have HSZ2:=qq (show (Z48:Array Value).size=An.cells.size from rfl);clear hA3 hB3 hL3 hu3 h1 h2 hUX hRX
    go_upto_region 25 with (first
     |(with_reducible refine Jk rfl 48 (.tmp 21) (.tmp 154) rfl wa.heap.size An.cells rfl rfl 48 Z48 HBN.out HINF.out HSZ2.out HONE.out ?_
       intro wb hb3 hu4;have HB3:=qq hb3;have HUB:=qq (show Upd No wa wb from ((Upd.refl No wa).alloc _).trans hu4 (by rintro j rfl;exact .inr (Nat.le_refl _)))
       clear hb3 hu4)
     |fail)
    have HW:=qq (spWhole (HL3.out.no HUB.out) HGK1.out.pre HGK1.out.cb.1 (by have:=HGK1.out.cb.2;omega));rw [HDK.out.2] at HW;go_wp2_with fail
    refine HW.out.mono ?_;rintro r w4 ⟨rfl,hu5⟩;have HB4:=qq (HB3.out.upd hu5 (fun h=>h));have HU4:=qq ((HU3.out.no HUB.out).no hu5);have HL4:=qq ((HL3.out.no HUB.out).no hu5);have HRX:=qq ((HRX.out.fr HUB.out.fr0).fr hu5.fr0);clear hu5;obtain ⟨Vk,hVk⟩:∃x,x=UU.beh g3:=⟨_,rfl⟩;rw [←hVk] at HCOM HRG;have HUR:=qq (show Vk.Rd N we (gk.limA c Ak) from by rw [hVk];exact ⟨HUU.out.err,HUU.out.n,HUU.out.m,HUU.out.flag,HUU.out.atT,HUU.out.atI,HUU.out.es,HUU.out.sn⟩);clear hVk
    have HSS:=qq fun (W:World) (hu2:Upd No w4 W)=>(show W.rangeAt g ((k+1)*21) Vk.cells.toList∧W.rangeAt wa.heap.size 0 An.cells.toList∧W.rangeAt b (o+k*34) v.cells.toList from
     ⟨HRG.out W (HU4.out.no hu2),(HB4.out.upd hu2 (fun h=>h)).rangeIn (n:=21) (fun j hj=>by rw [Nat.zero_add,Array.getElem?_toList]) rfl,HRB.out W (HU4.out.no hu2)⟩)
    have UQ0:=qq (show Upd No w4 w4.drew from (Upd.refl No w4).drew);have H13:=qq fun (W:World) (hu2:Upd No w4 W)=>limits13 (V:=An) (A:=Ak) (v:=v) (c:=c) (g:=gk) (left:=lf) (HRX.out.fr hu2.fr0) ((HVK.out.fr (HFS.out w4 HU4.out)).fr hu2.fr0) HCK.out HES.out.1 (by have:=HES.out.2;omega) (Nat.le_trans HNN.out (HUW.out W (HU4.out.no hu2)).size) HLF.out.1 HLF.out.2.1 HLF.out.2.2;have H12:=qq fun (W:World) (hu2:Upd No w4 W) (V2:Ja) (hV2:V2.Rd N W (gk.limA c Ak)) (he:V2.com=An.com∧V2.apg=An.apg∧V2.apd=An.apd∧V2.paused=An.paused)=>
     same12 ((HUR.out.fr (HFS.out w4 HU4.out)).fr hu2.fr0) hV2 (by have h1:=HUR.out.es.len;have h2:=gk.limA_len c Ak;have h3:=HES.out.2;omega) (HCOM.out.1.trans he.1.symm) (HCOM.out.2.1.trans he.2.1.symm) (HCOM.out.2.2.1.trans he.2.2.1.symm) (HCOM.out.2.2.2.trans he.2.2.2.symm)
    have HU48:=qq Tryz.underlying48;have HU45:=qq Tryz.underlying45;go_upto_region 27 with fail
    refine wp_region_held_drew (S:=(fun W=>W.rangeAt g ((k+1)*21) Vk.cells.toList∧W.rangeAt wa.heap.size 0 An.cells.toList∧W.rangeAt b (o+k*34) v.cells.toList)) (by kernel_rfl) (HSS.out _ UQ0.out) (fun hHeld=>?_);refine td 0 163 rfl ?_ ?_ ?_;rotate_left 1
    ·(intro w hSw;clear hSw;go_simp);all_goals with_reducible rfl
    try simp only [NR]
    refine td 1 164 rfl ?_ ?_ ?_;rotate_left 1
    ·(intro w hSw;clear hSw;go_simp);all_goals with_reducible rfl
    try simp only [NR]
    refine td 2 165 rfl ?_ ?_ ?_;rotate_left 1
    ·(intro w hSw;clear hSw;go_simp);all_goals with_reducible rfl
    try simp only [NR]
    refine td 3 166 rfl ?_ ?_ ?_;rotate_left 1
    ·(intro w hSw;clear hSw;go_simp);all_goals with_reducible rfl
    try simp only [NR]
    refine td 4 167 rfl ?_ ?_ ?_;rotate_left 1
    ·(intro w hSw;clear hSw;go_simp);all_goals with_reducible rfl
    try simp only [NR]
    refine td 5 168 rfl ?_ ?_ ?_;rotate_left 1
    ·(intro w hSw;clear hSw;go_simp);all_goals with_reducible rfl
    try simp only [NR]
    refine td 6 169 rfl ?_ ?_ ?_;rotate_left 1
    ·(intro w hSw;clear hSw;go_simp);all_goals with_reducible rfl
    try simp only [NR]
    refine td 7 170 rfl ?_ ?_ ?_;rotate_left 1
    ·(intro w hSw;clear hSw;go_simp);all_goals with_reducible rfl
    try simp only [NR]
    refine td 8 171 rfl ?_ ?_ ?_;rotate_left 1
    ·(intro w hSw;clear hSw;go_simp);all_goals with_reducible rfl
    try simp only [NR]
    refine td 9 172 rfl ?_ ?_ ?_;rotate_left 1
    ·(intro w hSw;clear hSw;go_simp);all_goals with_reducible rfl
    try simp only [NR]
    refine wpAnyH_take (i:=10) (oi:=⟨some 173,_,_,_,_,_⟩) (v:=.agg Vk.cells) rfl (by kernel_rfl) (by kernel_rfl) (by kernel_rfl) (fun _ _ _ h=>h) (Kd (by rfl) 48 (.tmp 172) rfl g ((k+1)*21) rfl Vk.cells _ (fun _ hS=>hS.1) HU48.out rfl Vk.inf) hHeld ?_;try simp only [NR]
    refine wpAnyH_take (i:=11) (oi:=⟨some 174,_,_,_,_,_⟩) (v:=.agg An.cells) rfl (by kernel_rfl) (by kernel_rfl) (by kernel_rfl) (fun _ _ _ h=>h) (Kd (by rfl) 48 (.tmp 21) rfl wa.heap.size 0 rfl An.cells _ (fun _ hS=>hS.2.1) HU48.out rfl An.inf) hHeld ?_;try simp only [NR]
    refine td 12 175 rfl ?_ ?_ ?_;rotate_left 1
    ·(intro w hSw;clear hSw;go_simp);all_goals with_reducible rfl
    try simp only [NR]
    refine td 13 176 rfl ?_ ?_ ?_;rotate_left 1
    ·(intro w hSw;clear hSw;go_simp);all_goals with_reducible rfl
    try simp only [NR]
    refine td 14 177 rfl ?_ ?_ ?_;rotate_left 1
    ·(intro w hSw;clear hSw;go_simp);all_goals with_reducible rfl
    try simp only [NR]
    refine wpAnyH_take (i:=15) (oi:=⟨some 178,_,_,_,_,_⟩) (v:=.agg v.cells) rfl (by kernel_rfl) (by kernel_rfl) (by kernel_rfl) (fun _ _ _ h=>h) (Kd (by rfl) 45 (.tmp 177) rfl b (o+k*34) rfl v.cells _ (fun _ hS=>hS.2.2) HU45.out rfl v.inf) hHeld ?_;try simp only [NR]
    refine td 16 179 rfl ?_ ?_ ?_;rotate_left 1
    ·(intro w hSw;clear hSw;go_simp);all_goals with_reducible rfl
    try simp only [NR]
    refine wpAnyH_ready (rs:=[17]) (by kernel_rfl) (by simp) ?_;refine AllReadyH.cons (o:=⟨some 180,_,_,_,_,_⟩) rfl (fun K hK=>?_) AllReadyH.nil;rw [if_pos (by rfl)];go_simp;refine (H13.out _ UQ0.out).mono ?_;rintro r wq ⟨V2,rfl,hV2,e1,e2,e3,e4,hu2⟩;have UQ1:=qq (UQ0.out.no hu2);have HV2:=qq hV2;have HE4:=qq (And.intro e1 (And.intro e2 (And.intro e3 e4)));clear hV2 e1 e2 e3 e4 hu2;go_wp2_with fail
    refine hK.out _ _ (HSS.out _ UQ1.out) (fun hHeld=>?_);clear hK;try simp only [NR]
    refine wpAnyH_ready (rs:=[18]) (by kernel_rfl) (by simp) ?_;refine AllReadyH.cons (o:=⟨some 181,_,_,_,_,_⟩) rfl (fun K hK=>?_) AllReadyH.nil;rw [if_pos (by rfl)];go_simp;refine (H12.out _ UQ1.out V2 HV2.out HE4.out).mono ?_;rintro r wq2 ⟨rfl,hu2⟩;have UQ2:=qq (UQ1.out.no hu2);clear hu2;go_wp2_with fail
    refine hK.out _ _ (HSS.out _ UQ2.out) (fun hHeld=>?_);clear hK;try simp only [NR]
    refine td 19 182 rfl ?_ ?_ ?_;rotate_left 1
    ·(intro w hSw;clear hSw;go_simp);all_goals with_reducible rfl
    try simp only [NR]
    refine td 20 183 rfl ?_ ?_ ?_;rotate_left 1
    ·(intro w hSw;clear hSw;go_simp);all_goals with_reducible rfl
    try simp only [NR]
    refine wpAnyH_done (by kernel_rfl) ?_ _;go_wp2;exact ⟨⟨k+1,A3,B3,by omega,by simp,HAB.out.1,HAB.out.2,qq (show Ka N wq2 l A3 B3 (gAt g0 C (k+1)) by rw [HGE.out];exact HL4.out.no UQ2.out),qq (HU4.out.no UQ2.out)⟩,by simp [intOf];omega⟩
   ·obtain rfl:k=n:=by omega
    go_wp2;go_ret;exact ⟨by simp,HUW.out wr hu.out⟩
end
end Go.Proofs.YtmagnkjodjmojaaGreat
