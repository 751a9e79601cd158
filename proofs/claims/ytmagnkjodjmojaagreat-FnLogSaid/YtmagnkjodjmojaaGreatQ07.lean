/- A part of the proof of FnLog: laws and walks, with their conditions written at each. -/
import Derived.Test.YtmagnkjodjmojaaGreatQ06
set_option maxRecDepth 20000
set_option maxHeartbeats 4000000
set_option linter.all false
namespace Go.Proofs.YtmagnkjodjmojaaGreat
open Go.RowKit
theorem lim_prop {es:List Ent} (hok:AllOk es) (max:Int) (h0:1≤es.length):1≤lim es max∧(lim es max=1∨sumS es (lim es max)≤max)∧(lim es max=es.length∨max<sumS es (lim es max+1)):=by
 obtain ⟨s1,s2⟩:=limN_spec max es 0;have hl:=limN_le max es 0;simp only [Int.zero_add] at s1 s2;have hL:lim es max=if limN max 0 es=0 then 1 else limN max 0 es:=by unfold lim;rw [if_neg (by omega)]
 by_cases hz:limN max 0 es=0
 ·rw [if_pos hz] at hL;rw [hL];refine ⟨Nat.le_refl _,.inl rfl,?_⟩;rw [hz] at s2;have s3:=s2 (by omega);by_cases h1:es.length=1
  ·exact .inl h1.symm
  ·have:=sumS_mono hok (show 0+1≤1+1 by omega) (by omega)
   exact .inr (by omega)
 ·rw [if_neg hz] at hL;rw [hL];refine ⟨by omega,.inr (s1 (by omega)),?_⟩;rcases Nat.lt_or_ge (limN max 0 es) es.length with h|h
  ·exact .inr (s2 h)
  ·exact .inl (by omega)
theorem sumS_app_le (S U:List Ent):∀k,k≤S.length→sumS (S++U) k=sumS S k:=by
 induction S with
 |nil=>
  intro k hk;obtain rfl:k=0:=by simpa using hk
  rw [sumS_zero,sumS_zero]
 |cons e r ih=>
  intro k hk;rcases k with _|k
  ·rw [sumS_zero,sumS_zero]
  ·rw [List.cons_append,sumS_cons,sumS_cons,ih k (by simpa using hk)]
theorem sumS_app (S U:List Ent) (k:Nat):sumS (S++U) (S.length+k)=sumS S S.length+sumS U k:=by
 induction S with
 |nil=>simp [sumS_zero]
 |cons e r ih=>
  rw [List.cons_append,show (e::r).length+k=(r.length+k)+1 by simp;omega,sumS_cons,ih,List.length_cons,sumS_cons];omega
theorem AllOk.app {S U:List Ent} (h:AllOk S) (k:AllOk U):AllOk (S++U):=by
 intro j hj;rcases Nat.lt_or_ge j S.length with hl|hl
 ·rw [getD_app_lt hl];exact h j hl
 ·rw [getD_app_ge hl];exact k _ (by simp at hj;omega)
theorem sumS_take (U:List Ent) (n:Nat) (h:n≤U.length):∀k,k≤n→sumS (U.take n) k=sumS U k:=by
 intro k hk;have:=sumS_app_le (U.take n) (U.drop n) k (by simp;omega);rw [List.take_append_drop] at this;exact this.symm
section
variable {S U:List Ent} (hS:AllOk S) (hU:AllOk U) (h1:1≤S.length) (max:Int)
include hS hU h1
theorem lim_app_short (h:lim S max<S.length):lim (S++U) max=lim S max:=by
 obtain ⟨p1,p2,p3⟩:=lim_prop hS max h1;refine lim_eq (hS.app hU) p1 (by simp;omega) ?_ ?_
 ·rcases p2 with p2|p2
  ·exact .inl p2
  ·exact .inr (by rw [sumS_app_le _ _ _ (by omega)];exact p2)
 ·rcases p3 with p3|p3
  ·omega
  ·exact .inr (by rw [sumS_app_le _ _ _ (by omega)];exact p3)
theorem lim_app_full (h:lim S max=S.length) (hge:max≤sumS S S.length):lim (S++U) max=S.length:=by
 obtain ⟨p1,p2,p3⟩:=lim_prop hS max h1;rw [h] at p2;rcases Nat.eq_zero_or_pos U.length with h0|h0
 ·refine lim_eq (hS.app hU) h1 (by simp) ?_ (.inl (by rw [List.length_append];omega));rcases p2 with p2|p2
  ·exact .inl p2
  ·exact .inr (by rw [sumS_app_le _ _ _ (Nat.le_refl _)];exact p2)
 ·refine lim_eq (hS.app hU) h1 (by simp) ?_ (.inr ?_)
  ·rcases p2 with p2|p2
   ·exact .inl p2
   ·exact .inr (by rw [sumS_app_le _ _ _ (Nat.le_refl _)];exact p2)
  ·have:=sumS_lt (hS.app hU) (show S.length<S.length+1 by omega) (by simp;omega)
   rw [sumS_app_le _ _ _ (Nat.le_refl _)] at this;omega
theorem lim_app_one (h:lim S max=S.length) (hlt:sumS S S.length<max) (hu:lim U (max - sumS S S.length)=1) (hx:max<sumS S S.length+sumS U 1) (hUl:1≤U.length):lim (S++U) max=S.length:=by
 have _:=hu;have _:=h;refine lim_eq (hS.app hU) h1 (by simp) (.inr ?_) (.inr ?_)
 ·rw [sumS_app_le _ _ _ (Nat.le_refl _)];omega
 ·rw [sumS_app];exact hx
theorem lim_app_more (h:lim S max=S.length) (hlt:sumS S S.length<max) (hUl:1≤U.length) (hu:lim U (max - sumS S S.length)≠1∨sumS S S.length+sumS U 1≤max):lim (S++U) max=S.length+lim U (max - sumS S S.length):=by
 have _:=h;obtain ⟨p1,p2,p3⟩:=lim_prop hU (max - sumS S S.length) hUl;have hle:=lim_le U (max - sumS S S.length);refine lim_eq (hS.app hU) (by omega) (by simp;omega) (.inr ?_) ?_
 ·rw [sumS_app];rcases p2 with p2|p2
  ·rw [p2];rcases hu with hu|hu
   ·exact absurd p2 hu
   ·exact hu
  ·omega
 ·rcases p3 with p3|p3
  ·exact .inl (by simp;omega)
  ·exact .inr (by rw [show S.length+lim U (max - sumS S S.length)+1=S.length+(lim U (max - sumS S S.length)+1) by omega,sumS_app];omega)
end
def LgL.range (g:LgL) (lo hi:Int):List Ent:=
 if g.u.off≤lo then (g.u.es.take (hi - g.u.off).toNat).drop (lo - g.u.off).toNat
 else if hi≤g.u.off then g.s.sub lo hi else g.s.sub lo g.u.off++g.u.es.take (hi - g.u.off).toNat
theorem PArr.weak0 {N:Nat} {w:World} {d:Nat} {s:SlV} {es:List Ent} (h:PArr N w (0 - d) s es):PArr N w 0 s es:=by rw [Nat.zero_sub] at h;exact h
section
variable {N:Nat} {w:World} {J:LId} {g:LgL}
theorem TlL.Ok.allOk {u:TlL} (h:u.Ok):AllOk u.es:=h.ok
theorem AllOk.take {es:List Ent} (h:AllOk es) (k:Nat):AllOk (es.take k):=by
 intro j hj;simp at hj;have:(es.take k).getD j default=es.getD j default:=by
  simp only [List.getD_eq_getElem?_getD,List.getElem?_take];rw [if_pos (by omega)]
 rw [this];exact h j (by omega)
theorem AllOk.drop {es:List Ent} (h:AllOk es) (k:Nat):AllOk (es.drop k):=by
 intro j hj;simp at hj;have:(es.drop k).getD j default=es.getD (k+j) default:=by
  simp only [List.getD_eq_getElem?_getD,List.getElem?_drop]
 rw [this];exact h _ (by omega)
theorem LgL.range_ok (ho:g.Ok) (lo hi:Int):AllOk (g.range lo hi):=by
 unfold LgL.range;split
 ·exact (ho.u.allOk.take _).drop _
 split
 ·exact StL.sub_ok ho.s _ _
 ·exact (StL.sub_ok ho.s _ _).app (ho.u.allOk.take _)
theorem LgL.Ok.low (ho:g.Ok) {lo:Int} (h1:g.first≤lo) (h2:lo<g.u.off):g.u.has=false∧g.s.first≤lo∧g.u.off≤g.s.last+1∧g.first=g.s.first:=by
 rcases hh:g.u.has with _|_
 ·have:=ho.gap hh
  have hf:g.first=g.s.first:=by unfold LgL.first;rw [hh];rfl
  exact ⟨rfl,by omega,this.1,hf⟩
 ·have:=ho.u.hs hh
  have hf:g.first=g.u.snap.index+1:=by unfold LgL.first;rw [hh];rfl
  omega
theorem LgL.Ok.high (ho:g.Ok) {hi:Int} (h1:hi≤g.last+1) (h2:g.u.off<hi):hi≤g.u.end_∧g.u.es.length≠0:=by
 have hn:g.u.es.length≠0:=by
  intro hn;rcases hh:g.u.has with _|_
  ·have:=ho.gap hh
   have hl:g.last=g.s.last:=by unfold LgL.last;rw [hh,if_neg (by omega)];rfl
   have:=this.2.2 hn
   omega
  ·have:=ho.u.hs hh
   have hl:g.last=g.u.snap.index:=by unfold LgL.last;rw [hh,if_neg (by omega)];rfl
   omega
 have hl:g.last=g.u.end_ - 1:=by unfold LgL.last;rw [if_pos hn]
 exact ⟨by omega,hn⟩
theorem uSlice' (J:LId) {lo hi:Int} (ho:g.Ok) (h1:g.u.off≤lo) (h2:lo<hi) (h3:hi≤g.u.end_):
  ∃c:SlV,∀w,Jf N w J g→(∃b o,c.A=some ⟨b,o,none⟩)∧c.n=(hi - lo).toNat∧c.n≤c.c∧PArr N w 0 c ((g.u.es.take (hi - g.u.off).toNat).drop (lo - g.u.off).toNat)∧
   Calls Tryz.prog 205 #[.pointer (some ⟨J.l,1,none⟩),.int .u64 lo,.int .u64 hi] w fun e w'=>e=.returned (.slice c.A c.n c.c)∧∃n,w.drewN n=w':=by
 refine ⟨cutV J.ue (lo - g.u.off).toNat (hi - g.u.off).toNat,fun w h=>?_⟩;have hl:=h.ue.len;have hc:=h.ue.cut (a:=(lo - g.u.off).toNat) (b:=(hi - g.u.off).toNat) (by omega) (by unfold TlL.end_ at h3;omega);have hn:(cutV J.ue (lo - g.u.off).toNat (hi - g.u.off).toNat).n=(hi - lo).toNat:=by unfold cutV;rw [if_neg (by omega)];simp only;omega
 refine ⟨?_,hn,hc.cap,hc.weak0,uSlice h.blk h.ue ho.u h1 (by omega) h3⟩;obtain ⟨b,o,cs,hA,_⟩:=hc.arr (by have:=hc.cap;omega);exact ⟨b,o,hA⟩
theorem lgSlice_hi {lo hi max:Int} (h:Jf N w J g) (ho:g.Ok) (h0:0≤lo) (h1:lo<hi) (h2:hi≤g.last+1) (h3:g.first≤lo) (hm:0≤max) (hc:g.u.off≤lo):
  Calls Tryz.prog 153 #[.pointer (some ⟨J.l,0,none⟩),.int .u64 lo,.int .u64 hi,.int .u64 max] w fun e w'=>
   ∃t:SlV,e=.returned (.tuple #[.slice t.A t.n t.c,.nilIface])∧PArr N w' 0 t ((g.range lo hi).take (lim (g.range lo hi) max))∧Jf N w' J g∧Upd (fun k=>k=J.I.ms) w w':=by
 have HCK:=qq (lgCheck h ho h0 (by omega) h2 h3);have hh:=ho.high h2 (by omega);have HO:=qq ho;have hR:g.range lo hi=(g.u.es.take (hi - g.u.off).toNat).drop (lo - g.u.off).toNat:=by unfold LgL.range;rw [if_pos hc]
 have hRO:=qq (LgL.range_ok ho lo hi);obtain ⟨cv,hcv⟩:=uSlice' (N:=N) J ho hc h1 hh.1;have HLE:=qq ho.u.len;have hlo:lo<4611686018427387905:=by have:=ho.last_lt;omega
 rw [←hR] at hcv;have HS:=qq hcv;have HLI:=qq (lim_le (g.range lo hi) max);have HRL:=qq (show (g.range lo hi).length≤100000 by rw [hR];have:=ho.u.len;simp;omega);have HRN:=qq (show (g.range lo hi).length=(hi - lo).toNat by rw [hR];have:=hh.1;unfold TlL.end_ at this;simp;omega);generalize g.range lo hi=R at*;have hmm:(lo==hi)=false:=beq_eq_false_iff_ne.2 (by omega);clear h ho hR hh h2 h3 hcv;go_enter Tryz.func153,Tryz.ntmps153;go_wp2_with fail
 refine HCK.out.mono ?_;rintro r w1 ⟨rfl,hR1,hU1⟩;have c3:w1.cell? ⟨J.l,3,none⟩=some (.int .u64 g.u.off):=hR1.blk.cell 3;obtain ⟨⟨b,o,hA⟩,hn,hcc,_,hcall⟩:=HS.out w1 hR1;have HCALL:=qq hcall;have HPA:=qq fun (w:World) (h:Jf N w J g)=>(HS.out w h).2.2.2.1;clear hcall;rw [hA] at HCALL;have hLL:lim R max≤cv.c:=by have:=HLI.out;have:=HRN.out;omega
 have HN:=qq hn;have HA:=qq hA;have HCC:=qq hcc;clear hn hA hcc;go_wp2_with fail
 refine HCALL.out.mono ?_;rintro r w2 ⟨rfl,n2,rfl⟩;have HL:=qq (limitSize (HPA.out _ (hR1.drewN n2)) hRO.out HRL.out hm);rw [HA.out] at HL;go_wp2_with fail
 refine HL.out.mono ?_;rintro r w3 ⟨rfl,n3,rfl⟩;go_wp2;go_ret2;have HP2:=(HPA.out _ (hR1.drewN (n2+n3))).take_ (k:=lim R max) (c:=lim R max) (by have:=HLI.out;have:=HRN.out;have:=HN.out;omega) (Nat.le_refl _) (by omega);rw [HA.out] at HP2;exact ⟨⟨some ⟨b,o,none⟩,lim R max,lim R max⟩,rfl,HP2,hR1.drewN _,hU1.drewN _⟩
theorem lgSlice_none {lo max:Int} (h:Jf N w J g) (ho:g.Ok) (h0:0≤lo) (h2:lo≤g.last+1) (h3:g.first≤lo):
  Calls Tryz.prog 153 #[.pointer (some ⟨J.l,0,none⟩),.int .u64 lo,.int .u64 lo,.int .u64 max] w fun e w'=>
   e=.returned (.tuple #[.slice none 0 0,.nilIface])∧Jf N w' J g∧Upd (fun k=>k=J.I.ms) w w':=by
 have HCK:=qq (lgCheck h ho h0 (Int.le_refl _) h2 h3);clear h ho h2 h3;go_enter Tryz.func153,Tryz.ntmps153;go_wp2_with fail
 refine HCK.out.mono ?_;rintro r w1 ⟨rfl,hR1,hU1⟩;go_wp2;go_ret2;exact ⟨rfl,hR1,hU1⟩
theorem lgSlice_low {lo hi max:Int} (h:Jf N w J g) (ho:g.Ok) (h0:0≤lo) (h1:lo≤hi) (h3:lo<g.first):
  Calls Tryz.prog 153 #[.pointer (some ⟨J.l,0,none⟩),.int .u64 lo,.int .u64 hi,.int .u64 max] w fun e w'=>
   e=.returned (.tuple #[.slice none 0 0,.iface 176 (.string errCompS)])∧Jf N w' J g∧Upd (fun k=>k=J.I.ms) w w':=by
 have HCK:=qq (lgCheck_low h ho h0 h1 h3);clear h ho h1 h3;go_enter Tryz.func153,Tryz.ntmps153;go_wp2_with fail
 refine HCK.out.mono ?_;rintro r w1 ⟨rfl,hR1,hU1⟩;go_wp2;go_ret2;exact ⟨rfl,hR1,hU1⟩
theorem app_take {α:Type} (S U:List α) (k:Nat):(S++U).take (S.length+k)=S++U.take k:=by rw [List.take_append,List.take_of_length_le (by omega)];simp
theorem Jf.c0 (h:Jf N w J g):w.cell? ⟨J.l,0,none⟩=some (.iface 86 (.pointer (some ⟨J.I.ms,0,none⟩))):=h.blk.cell 0
theorem Jf.c3 (h:Jf N w J g):w.cell? ⟨J.l,3,none⟩=some (.int .u64 g.u.off):=h.blk.cell 3
@[go_sem] theorem eql_err_nil (w:World) (s:ByteArray):(binOp .eql 141 (.iface 176 (.string s)) .nilIface).run Tryz.prog w=.ok (.bool false) w:=by kernel_rfl
@[go_sem] theorem eql_nil_err (w:World) (s:ByteArray):(binOp .eql 141 .nilIface (.iface 176 (.string s))).run Tryz.prog w=.ok (.bool false) w:=by kernel_rfl
theorem lgSlice_lo {lo hi max:Int} (h:Jf N w J g) (ho:g.Ok) (h0:0≤lo) (h1:lo<hi) (h2:hi≤g.last+1) (h3:g.first≤lo) (hm:0≤max) (hc:lo<g.u.off) (hd:hi≤g.u.off):
  Calls Tryz.prog 153 #[.pointer (some ⟨J.l,0,none⟩),.int .u64 lo,.int .u64 hi,.int .u64 max] w fun e w'=>
   ∃t:SlV,e=.returned (.tuple #[.slice t.A t.n t.c,.nilIface])∧PArr N w' 0 t ((g.range lo hi).take (lim (g.range lo hi) max))∧Jf N w' J g∧Upd (fun k=>k=J.I.ms) w w':=by
 have HCK:=qq (lgCheck h ho h0 (by omega) h2 h3);have hh:=ho.low h3 hc;have hR:g.range lo hi=g.s.sub lo hi:=by unfold LgL.range;rw [if_neg (by omega),if_pos hd]
 rw [hR];have HS:=qq fun (w:World) (h:Jf N w J g)=>stEntries h.st ho.s hh.2.1 h1 (show hi≤g.s.last+1 by omega) hm;have hlo:hi<4611686018427387905:=by have:=ho.u.o2;omega
 generalize g.s.sub lo hi=R at*;have hmm:(lo==hi)=false:=beq_eq_false_iff_ne.2 (by omega);have fi:∀a w,(method 385 86 (.pointer (some a)) "Entries").run Tryz.prog w=.ok (129,.pointer (some a)) w:=fun a w=>by kernel_rfl
 clear h ho hR hh h2 h3;go_enter Tryz.func153,Tryz.ntmps153;go_wp2_with fail
 refine HCK.out.mono ?_;rintro r w1 ⟨rfl,hR1,hU1⟩;have c0:=hR1.c0;have c3:=hR1.c3;go_wp2_with fail
 refine (HS.out w1 hR1).mono ?_;rintro r w2 ⟨t,rfl,htn,hP,hS2,hU2⟩;have HTN:=qq htn;have HP:=qq hP;clear htn hP;have hR2:=hR1.stats hS2 hU2;have c0':=hR2.c0;have c3':=hR2.c3;go_wp2;go_ret2;exact ⟨t,rfl,HP.out,hR2,hU1.Ke hU2⟩
theorem lgSlice_mid {lo hi max:Int} (h:Jf N w J g) (ho:g.Ok) (h0:0≤lo) (h2:hi≤g.last+1) (h3:g.first≤lo) (hm:0≤max) (hm2:max<18446744073709551616) (hc:lo<g.u.off) (hd:g.u.off<hi):
  Calls Tryz.prog 153 #[.pointer (some ⟨J.l,0,none⟩),.int .u64 lo,.int .u64 hi,.int .u64 max] w fun e w'=>
   ∃t:SlV,e=.returned (.tuple #[.slice t.A t.n t.c,.nilIface])∧PArr N w' 0 t ((g.range lo hi).take (lim (g.range lo hi) max))∧Jf N w' J g∧Upd (fun k=>k=J.I.ms) w w':=by
 have HCK:=qq (lgCheck h ho h0 (by omega) h2 h3);have hh:=ho.low h3 hc;have hk:=ho.high h2 hd;have hR:g.range lo hi=g.s.sub lo g.u.off++g.u.es.take (hi - g.u.off).toNat:=by unfold LgL.range;rw [if_neg (by omega),if_neg (by omega)]
 rw [hR];have HSt:=qq fun (w:World) (h:Jf N w J g)=>stEntries h.st ho.s hh.2.1 hc (show g.u.off≤g.s.last+1 by omega) hm;obtain ⟨cv,hcv⟩:=uSlice' (N:=N) J ho (Int.le_refl g.u.off) hd hk.1;have hlo:g.u.off<4611686018427387905:=by have:=ho.u.o2;omega
 have hhi:hi<4611686018427387905:=by have:=hk.1;have:=ho.u.e2;omega
 have hSO:=qq (StL.sub_ok ho.s lo g.u.off);have hUO:=qq (ho.u.allOk.take (hi - g.u.off).toNat);have hSl:=g.s.sub_len hh.2.1 (show lo≤g.u.off by omega) (show g.u.off≤g.s.last+1 by omega);have hS9:(g.s.sub lo g.u.off).length≤20000:=by
  have:=ho.s.len
  unfold StL.sub;simp;omega
 have hU9:=ho.u.len;have hUl:(g.u.es.take (hi - g.u.off).toNat).length=(hi - g.u.off).toNat:=by have:=hk.1;unfold TlL.end_ at this;simp;omega
 have hU8:(g.u.es.take (hi - g.u.off).toNat).length≤20000:=by simp;omega
 rw [show (g.u.off - g.u.off).toNat=0 by omega] at hcv;simp only [List.drop_zero] at hcv;have HUs:=qq hcv;clear hcv;generalize g.s.sub lo g.u.off=S at*;generalize g.u.es.take (hi - g.u.off).toNat=U at*;have hS1:1≤S.length:=by omega
 have hU1:1≤U.length:=by omega
 have hmm:(lo==hi)=false:=beq_eq_false_iff_ne.2 (by omega);have fi:∀a w,(method 385 86 (.pointer (some a)) "Entries").run Tryz.prog w=.ok (129,.pointer (some a)) w:=fun a w=>by kernel_rfl
 have HSL:=qq hSl;have HUL:=qq hUl;have HHI:=qq hhi;have HHM:=qq hm;clear h ho hR hh h2 h3 hk hSl hUl;have hlimS:=qq (lim_prop hSO.out max hS1);have hls:=lim_le S max;have hsb:=sumS_bd hSO.out S.length (Nat.le_refl _);go_enter Tryz.func153,Tryz.ntmps153;go_wp2_with fail
 refine HCK.out.mono ?_;rintro r w1 ⟨rfl,hR1,hV1⟩;have c0:=hR1.c0;have c3:=hR1.c3;go_wp2_with fail
 refine (HSt.out w1 hR1).mono ?_;rintro r w2 ⟨t,rfl,htn,hP,hS2,hV2⟩;have HTN:=qq htn;have htl:=hP.len;rw [List.length_take,Nat.min_eq_left hls] at htl;have HTL:=qq htl;have HP:=qq hP;clear hP htn;have hR2:=hR1.stats hS2 hV2;have c0':=hR2.c0;have c3':=hR2.c3;have c1':w2.cell? ⟨J.l,1,none⟩=some (.pointer J.up):=hR2.blk.cell 1;have hV3:=hV1.Ke hV2;by_cases hfull:lim S max<S.length
 ·have hshort:(t.n:Int)<g.u.off - lo:=by have:=HSL.out;omega
  have hres:=qq (lim_app_short hSO.out hUO.out hS1 max hfull);clear htl;go_wp2;go_ret2;refine ⟨t,rfl,?_,hR2,hV3⟩;rw [hres.out,List.take_append_of_le_length (by omega)];exact HP.out
 ·have hfe:lim S max=S.length:=by omega
  have hlong:¬(t.n:Int)<g.u.off - lo:=by have:=HSL.out;omega
  have HFE:=qq hfe;have ht9:t.n≤20000:=by omega
  rw [hfe] at HP;rw [List.take_length] at HP;clear htl;have HSZ:=qq (entsSize HP.out hSO.out (by omega));generalize hszz:sumS S S.length=sz at*;have HSZZ:=qq hszz;clear hszz;by_cases hge:max≤sz
  ·have hres:=qq (lim_app_full hSO.out hUO.out hS1 max hfe (by rw [HSZZ.out];exact hge));clear hfe hfull;go_wp2_with fail
   refine HSZ.out.mono ?_;rintro r w3 ⟨rfl,m3,rfl⟩;go_wp2;go_ret2;refine ⟨t,rfl,?_,hR2.drewN _,hV3.drewN _⟩;rw [hres.out,List.take_append_of_le_length (Nat.le_refl _),List.take_length];exact HP.out.upd ((Upd.refl No w2).drewN m3) ((Upd.refl No w2).drewN m3).fr0 (fun _ _ _ h=>h)
  ·have hlt:sz<max:=by omega
   obtain ⟨⟨b,o,hA⟩,hcn,hcc,_,_⟩:=HUs.out w2 hR2;have hul:=lim_le U (max - sz);have hu1:=(lim_prop hUO.out (max - sz) hU1).1;have HUC:=qq fun (w:World) (h:Jf N w J g)=>(HUs.out w h).2.2.2.2;have HUP:=qq fun (w:World) (h:Jf N w J g)=>(HUs.out w h).2.2.2.1;have HUL2:=qq fun (w:World) (h:Jf N w J g)=>limitSize (max:=max - sz) (HUP.out w h) hUO.out (by omega) (by omega);rw [hA] at HUC HUL2;have HA:=qq hA;have hlcn:lim U (max - sz)≤cv.n:=by have:=(HUP.out w2 hR2).len;omega
   have hlcc:lim U (max - sz)≤cv.c:=by omega
   have hl9:lim U (max - sz)≤20000:=by omega
   clear hfe hfull hcn hA;have HTK:=qq fun (w:World) (h:Jf N w J g)=>(HUP.out w h).take_ (c:=cv.c) hlcn hlcc (Nat.le_refl _);rw [HA.out] at HTK;have HES:=qq fun (w:World) (h:Jf N w J g)=>entsSize (HTK.out w h) (hUO.out.take _) (by simp;omega);have hus:sumS (U.take (lim U (max - sz))) (U.take (lim U (max - sz))).length=sumS U (lim U (max - sz)):=by
    rw [List.length_take,Nat.min_eq_left hul];exact sumS_take U _ hul _ (Nat.le_refl _)
   simp only [hus] at HES;have hub:=sumS_bd hUO.out _ hul;have HU:=qq hus;clear hus;by_cases hone:lim U (max - sz)=1
   ·rw [hone] at HES HTK HUL2 hub;by_cases hov:max<sz+sumS U 1
    ·have hres:=qq (lim_app_one hSO.out hUO.out hS1 max HFE.out (by rw [HSZZ.out];exact hlt) (by rw [HSZZ.out];exact hone) (by rw [HSZZ.out];exact hov) hU1);clear hone hul hu1 hlcn hlcc hl9;go_wp2_with fail
     refine HSZ.out.mono ?_;rintro r w3 ⟨rfl,m3,hw3⟩;have hR3:Jf N w3 J g:=by rw [←hw3];exact hR2.drewN _
     have hV4:Upd (fun k=>k=J.I.ms) w w3:=by rw [←hw3];exact hV3.drewN _
     have hP3:=qq (show PArr N w3 0 t S by rw [←hw3];exact HP.out.upd ((Upd.refl No w2).drewN m3) ((Upd.refl No w2).drewN m3).fr0 (fun _ _ _ h=>h));have c0'':=hR3.c0;have c3'':=hR3.c3;have c1'':w3.cell? ⟨J.l,1,none⟩=some (.pointer J.up):=hR3.blk.cell 1;clear hw3;go_wp2_with fail
     go_quiet (first
      |(go_at_call 205;exact Ji (HUC.out _ (hR3.drewN _)))
      |(go_at_call 192;exact Ji (HUL2.out _ (hR3.drewN _))))
     go_wp2_with fail
     refine (HES.out _ (hR3.drewN _)).mono ?_;rintro r w5 ⟨rfl,m5,rfl⟩;go_wp2;go_ret2;refine ⟨t,rfl,?_,hR3.drewN _,hV4.drewN _⟩;rw [hres.out,List.take_append_of_le_length (Nat.le_refl _),List.take_length];exact hP3.out.upd ((Upd.refl No w3).drewN _) ((Upd.refl No w3).drewN _).fr0 (fun _ _ _ h=>h)
    ·have hres:=qq (lim_app_more hSO.out hUO.out hS1 max HFE.out (by rw [HSZZ.out];exact hlt) hU1 (.inr (by rw [HSZZ.out];omega)));rw [HSZZ.out,hone] at hres;clear hone hul hu1 hlcn hlcc hl9;go_wp2_with fail
     refine HSZ.out.mono ?_;rintro r w3 ⟨rfl,m3,hw3⟩;have hR3:Jf N w3 J g:=by rw [←hw3];exact hR2.drewN _
     have hV4:Upd (fun k=>k=J.I.ms) w w3:=by rw [←hw3];exact hV3.drewN _
     have hP3:=qq (show PArr N w3 0 t S by rw [←hw3];exact HP.out.upd ((Upd.refl No w2).drewN m3) ((Upd.refl No w2).drewN m3).fr0 (fun _ _ _ h=>h));have c0'':=hR3.c0;have c3'':=hR3.c3;have c1'':w3.cell? ⟨J.l,1,none⟩=some (.pointer J.up):=hR3.blk.cell 1;clear hw3;go_wp2_with fail
     go_quiet (first
      |(go_at_call 205;exact Ji (HUC.out _ (hR3.drewN _)))
      |(go_at_call 192;exact Ji (HUL2.out _ (hR3.drewN _))))
     go_wp2_with fail
     refine (HES.out _ (hR3.drewN _)).mono ?_;rintro r w5 ⟨rfl,m5,rfl⟩;go_wp2_with fail
     refine (extend_ (t:=⟨some ⟨b,o,none⟩,1,cv.c⟩) ((hP3.out).upd ((Upd.refl No w3).drewN _) ((Upd.refl No w3).drewN _).fr0 (fun _ _ _ h=>h)) (HTK.out _ (hR3.drewN _)) HTN.out.symm (Nat.le_refl 1) (by omega) (by simp;omega) (Nat.le_of_lt hR3.lt)).mono ?_;rintro r w6 ⟨t2,rfl,hP6,hU6⟩;have HP6:=qq hP6;clear hP6;go_wp2;go_ret2;refine ⟨t2,rfl,?_,(hR3.drewN _).no hU6,(hV4.drewN _).no hU6⟩;rw [hres.out,app_take];exact HP6.out
   ·have hres:=qq (lim_app_more hSO.out hUO.out hS1 max HFE.out (by rw [HSZZ.out];exact hlt) hU1 (.inl (by rw [HSZZ.out];exact hone)));rw [HSZZ.out] at hres;have hone':(((lim U (max - sz):Nat):Int)==1)=false:=beq_eq_false_iff_ne.2 (by omega);have HU1:=qq hu1;have HL9:=qq hl9;clear hul hu1 hlcn hone;go_wp2_with fail
    refine HSZ.out.mono ?_;rintro r w3 ⟨rfl,m3,hw3⟩;have hR3:Jf N w3 J g:=by rw [←hw3];exact hR2.drewN _
    have hV4:Upd (fun k=>k=J.I.ms) w w3:=by rw [←hw3];exact hV3.drewN _
    have hP3:=qq (show PArr N w3 0 t S by rw [←hw3];exact HP.out.upd ((Upd.refl No w2).drewN m3) ((Upd.refl No w2).drewN m3).fr0 (fun _ _ _ h=>h));have c0'':=hR3.c0;have c3'':=hR3.c3;have c1'':w3.cell? ⟨J.l,1,none⟩=some (.pointer J.up):=hR3.blk.cell 1;clear hw3;go_wp2_with fail
    go_quiet (first
     |(go_at_call 205;exact Ji (HUC.out _ (hR3.drewN _)))
     |(go_at_call 192;exact Ji (HUL2.out _ (hR3.drewN _))))
    go_wp2_with fail
    refine (extend_ (t:=⟨some ⟨b,o,none⟩,lim U (max - sz),cv.c⟩) ((hP3.out).upd ((Upd.refl No w3).drewN _) ((Upd.refl No w3).drewN _).fr0 (fun _ _ _ h=>h)) (HTK.out _ (hR3.drewN _)) HTN.out.symm HU1.out (by omega) (by simp;omega) (Nat.le_of_lt hR3.lt)).mono ?_;rintro r w6 ⟨t2,rfl,hP6,hU6⟩;have HP6:=qq hP6;clear hP6;go_wp2;go_ret2;refine ⟨t2,rfl,?_,(hR3.drewN _).no hU6,(hV4.drewN _).no hU6⟩;rw [hres.out,app_take];exact HP6.out
theorem lgSlice {lo hi max:Int} (h:Jf N w J g) (ho:g.Ok) (h0:0≤lo) (h1:lo≤hi) (h2:hi≤g.last+1) (h3:g.first≤lo) (hm:0≤max) (hm2:max<18446744073709551616):
  Calls Tryz.prog 153 #[.pointer (some ⟨J.l,0,none⟩),.int .u64 lo,.int .u64 hi,.int .u64 max] w fun e w'=>
   ∃t:SlV,e=.returned (.tuple #[.slice t.A t.n t.c,.nilIface])∧PArr N w' 0 t ((g.range lo hi).take (lim (g.range lo hi) max))∧Jf N w' J g∧Upd (fun k=>k=J.I.ms) w w':=by
 rcases Int.lt_or_eq_of_le h1 with h4|rfl
 ·by_cases hc:g.u.off≤lo
  ·exact lgSlice_hi h ho h0 h4 h2 h3 hm hc
  ·by_cases hd:hi≤g.u.off
   ·exact lgSlice_lo h ho h0 h4 h2 h3 hm (by omega) hd
   ·exact lgSlice_mid h ho h0 h2 h3 hm hm2 (by omega) (by omega)
 ·refine (lgSlice_none h ho h0 h2 h3).mono ?_;rintro r w' ⟨rfl,h4,h5⟩;refine ⟨⟨none,0,0⟩,rfl,?_,h4,h5⟩;have hR:g.range lo lo=[]:=by
   unfold LgL.range StL.sub;split
   ·simp
   ·rw [if_pos (by omega)];apply List.drop_eq_nil_of_le;simp;have:=ho.s.i0;unfold StL.first;omega
  rw [hR];exact PArr.nil N w' 0
theorem lgEntries {lo max:Int} (h:Jf N w J g) (ho:g.Ok) (h0:0≤lo) (h2:lo≤g.last+1) (h3:g.first≤lo) (hm:0≤max) (hm2:max<18446744073709551616):
  Calls Tryz.prog 148 #[.pointer (some ⟨J.l,0,none⟩),.int .u64 lo,.int .u64 max] w fun e w'=>
   ∃t:SlV,e=.returned (.tuple #[.slice t.A t.n t.c,.nilIface])∧PArr N w' 0 t ((g.range lo (g.last+1)).take (lim (g.range lo (g.last+1)) max))∧Jf N w' J g∧Upd (fun k=>k=J.I.ms) w w':=by
 have HH:=qq h;have HL:=qq fun (w:World) (h:Jf N w J g)=>lgLast h ho;have hl:=ho.last_lt;by_cases hg:g.last<lo
 ·have hR:g.range lo (g.last+1)=[]:=by
   have:lo=g.last+1:=by omega
   rw [this];unfold LgL.range StL.sub;split
   ·simp
   ·rw [if_pos (by omega)];apply List.drop_eq_nil_of_le;simp;have:=ho.s.i0;unfold StL.first;omega
  rw [hR];clear h ho hR;generalize g.last=L at*;go_enter Tryz.func148,Tryz.ntmps148;go_wp2_with fail
  refine (HL.out _ HH.out).mono ?_;rintro r w1 ⟨rfl,hR1,hV1⟩;go_wp2;go_ret2;exact ⟨⟨none,0,0⟩,rfl,PArr.nil N _ 0,hR1,hV1⟩
 ·have HS:=qq fun (w:World) (h:Jf N w J g)=>lgSlice h ho h0 (show lo≤g.last+1 by omega) (Int.le_refl _) h3 hm hm2;generalize g.range lo (g.last+1)=R at*;clear h ho h2 h3;generalize g.last=L at*;go_enter Tryz.func148,Tryz.ntmps148;go_wp2_with fail
  refine (HL.out _ HH.out).mono ?_;rintro r w1 ⟨rfl,hR1,hV1⟩;go_wp2_with fail
  refine (HL.out _ hR1).mono ?_;rintro r w2 ⟨rfl,hR2,hV2⟩;go_wp2_with fail
  refine (HS.out _ hR2).mono ?_;rintro r w3 ⟨t,rfl,hP,hR3,hV3⟩;have HP:=qq hP;clear hP;go_wp2;go_ret2;exact ⟨t,rfl,HP.out,hR3,(hV1.Ke hV2).Ke hV3⟩
theorem lgEntries_low {lo max:Int} (h:Jf N w J g) (ho:g.Ok) (h0:0≤lo) (h3:lo<g.first) (h2:lo≤g.last):
  Calls Tryz.prog 148 #[.pointer (some ⟨J.l,0,none⟩),.int .u64 lo,.int .u64 max] w fun e w'=>
   e=.returned (.tuple #[.slice none 0 0,.iface 176 (.string errCompS)])∧Jf N w' J g∧Upd (fun k=>k=J.I.ms) w w':=by
 have HH:=qq h;have HL:=qq fun (w:World) (h:Jf N w J g)=>lgLast h ho;have hl:=ho.last_lt;have HS:=qq fun (w:World) (h:Jf N w J g)=>lgSlice_low (max:=max) h ho h0 (show lo≤g.last+1 by omega) h3;clear h ho h3;generalize g.last=L at*;go_enter Tryz.func148,Tryz.ntmps148;go_wp2_with fail
 refine (HL.out _ HH.out).mono ?_;rintro r w1 ⟨rfl,hR1,hV1⟩;go_wp2_with fail
 refine (HL.out _ hR1).mono ?_;rintro r w2 ⟨rfl,hR2,hV2⟩;go_wp2_with fail
 refine (HS.out _ hR2).mono ?_;rintro r w3 ⟨rfl,hR3,hV3⟩;go_wp2;go_ret2;exact ⟨rfl,hR3,(hV1.Ke hV2).Ke hV3⟩
theorem lgEntries_high {lo max:Int} (h:Jf N w J g) (ho:g.Ok) (h2:g.last<lo):
  Calls Tryz.prog 148 #[.pointer (some ⟨J.l,0,none⟩),.int .u64 lo,.int .u64 max] w fun e w'=>
   e=.returned (.tuple #[.slice none 0 0,.nilIface])∧Jf N w' J g∧Upd (fun k=>k=J.I.ms) w w':=by
 have HH:=qq h;have HL:=qq fun (w:World) (h:Jf N w J g)=>lgLast h ho;have hl:=ho.last_lt;clear h ho;generalize g.last=L at*;go_enter Tryz.func148,Tryz.ntmps148;go_wp2_with fail
 refine (HL.out _ HH.out).mono ?_;rintro r w1 ⟨rfl,hR1,hV1⟩;go_wp2;go_ret2;exact ⟨rfl,hR1,hV1⟩
theorem lgAll (h:Jf N w J g) (ho:g.Ok):
  Calls Tryz.prog 181 #[.pointer (some ⟨J.l,0,none⟩)] w fun e w'=>
   ∃t:SlV,e=.returned (.slice t.A t.n t.c)∧PArr N w' 0 t ((g.range g.first (g.last+1)).take (lim (g.range g.first (g.last+1)) 18446744073709551615))∧Jf N w' J g∧Upd (fun k=>k=J.I.ms) w w':=by
 have HH:=qq h;have hf:=ho.first_bd;have HF:=qq fun (w:World) (h:Jf N w J g)=>lgFirst h ho;have HE:=qq fun (w:World) (h:Jf N w J g)=>lgEntries (max:=18446744073709551615) h ho (show 0≤g.first by omega) hf.2 (Int.le_refl _) (by omega) (by omega);generalize (g.range g.first (g.last+1)).take (lim (g.range g.first (g.last+1)) 18446744073709551615)=R at*;clear h ho;generalize g.first=F at*;go_enter Tryz.func181,Tryz.ntmps181;go_wp2_with fail
 refine (HF.out _ HH.out).mono ?_;rintro r w1 ⟨rfl,hR1,hV1⟩;go_wp2_with fail
 refine (HE.out _ hR1).mono ?_;rintro r w3 ⟨t,rfl,hP,hR3,hV3⟩;have HP:=qq hP;clear hP;go_wp2;go_ret;exact ⟨t,rfl,HP.out,hR3,hV1.Ke hV3⟩
end
section
variable {N:Nat} {w:World} {J:LId} {g:LgL}
theorem Jf.c1 (h:Jf N w J g):w.cell? ⟨J.l,1,none⟩=some (.pointer J.up):=h.blk.cell 1
theorem Jf.c2 (h:Jf N w J g):w.cell? ⟨J.l,2,none⟩=some (.slice J.ue.A J.ue.n J.ue.c):=h.blk.cell 2
theorem Jf.c4 (h:Jf N w J g):w.cell? ⟨J.l,4,none⟩=some (.bool g.u.going):=h.blk.cell 4
theorem Jf.c5 (h:Jf N w J g):w.cell? ⟨J.l,5,none⟩=some (.int .u64 g.u.till):=h.blk.cell 5
theorem Jf.c6 (h:Jf N w J g):w.cell? ⟨J.l,6,none⟩=some (.int .u64 g.com):=h.blk.cell 6
theorem Jf.c7 (h:Jf N w J g):w.cell? ⟨J.l,7,none⟩=some (.int .u64 g.apg):=h.blk.cell 7
theorem Jf.c8 (h:Jf N w J g):w.cell? ⟨J.l,8,none⟩=some (.int .u64 g.apd):=h.blk.cell 8
theorem Jf.c9 (h:Jf N w J g):w.cell? ⟨J.l,9,none⟩=some (.int .u64 g.size):=h.blk.cell 9
theorem Jf.c10 (h:Jf N w J g):w.cell? ⟨J.l,10,none⟩=some (.int .u64 g.usg):=h.blk.cell 10
theorem Jf.c11 (h:Jf N w J g):w.cell? ⟨J.l,11,none⟩=some (.bool g.paused):=h.blk.cell 11
theorem lgMost0 (h:Jf N w J g) (o1:1≤g.u.off) (o2:g.u.off≤4611686018427387904) (f:Bool):
  Calls Tryz.prog 162 #[.pointer (some ⟨J.l,0,none⟩),.bool f] w fun e w'=>e=.returned (.int .u64 (g.most f))∧w=w':=by
 have c3:=h.c3;have c6:=h.c6;have hm:g.most f=if f=true then g.com else min g.com (g.u.off - 1):=rfl
 rw [hm];generalize g.com=C at*;generalize g.u.off=O at*;clear h hm;cases f with
 |true=>
  rw [if_pos rfl];go_enter Tryz.func162,Tryz.ntmps162;go_wp2;go_ret;exact ⟨rfl,rfl⟩
 |false=>
  rw [if_neg (by decide)];go_enter Tryz.func162,Tryz.ntmps162;go_wp2;all_goals first
   |(go_ret;exact ⟨by rw [show min C (O - 1)=C by omega];rfl,rfl⟩)
   |(go_ret;exact ⟨by rw [show min C (O - 1)=O - 1 by omega];rfl,rfl⟩)
theorem lgMost (h:Jf N w J g) (ho:g.Ok) (f:Bool):
  Calls Tryz.prog 162 #[.pointer (some ⟨J.l,0,none⟩),.bool f] w fun e w'=>e=.returned (.int .u64 (g.most f))∧w=w':=lgMost0 h ho.u.o1 ho.u.o2 f
theorem lgHas (h:Jf N w J g):
  Calls Tryz.prog 179 #[.pointer (some ⟨J.l,0,none⟩)] w fun e w'=>e=.returned (.bool g.u.has)∧w=w':=by
 have c1:=h.c1;rcases h.us with ⟨h1,h2⟩|⟨sn,h1,h2,_⟩
 ·rw [h2];rw [h1] at c1;clear h h1 h2;go_enter Tryz.func179,Tryz.ntmps179;go_wp2;go_ret;exact ⟨rfl,rfl⟩
 ·rw [h2];rw [h1] at c1;clear h h1 h2;go_enter Tryz.func179,Tryz.ntmps179;go_wp2;go_ret;exact ⟨rfl,rfl⟩
def LgL.hasNext (g:LgL) (f:Bool):Bool:=!g.paused && !g.u.has && decide (g.apg<g.most f)
theorem LgL.Ok.most_bd (ho:g.Ok) (f:Bool):0≤g.most f∧g.most f≤g.com∧g.com≤4611686018427387904:=by
 have h1:=ho.last_lt;have h2:=ho.first_bd;have:=ho.c1;have:=ho.c2;have:=ho.u.o1;unfold LgL.most;split<;>omega
theorem lgHasNext (h:Jf N w J g) (ho:g.Ok) (f:Bool):
  Calls Tryz.prog 161 #[.pointer (some ⟨J.l,0,none⟩),.bool f] w fun e w'=>e=.returned (.bool (g.hasNext f))∧Jf N w' J g∧Upd No w w':=by
 have c7:=h.c7;have c11:=h.c11;have HH:=qq h;have HM:=qq fun (w:World) (h:Jf N w J g)=>lgMost h ho f;have HS:=qq (lgHas h);have mb:=ho.most_bd f;have a0:=ho.a0;have a1:=ho.a1;have a2:=ho.a2;have hN:g.hasNext f=(!g.paused && !g.u.has && decide (g.apg<g.most f)):=rfl;rw [hN];generalize g.most f=M at*;generalize g.u.has=H at*;generalize g.paused=P at*;generalize g.apg=A at*;clear h ho hN;cases P with
 |true=>
  go_enter Tryz.func161,Tryz.ntmps161;go_wp2;go_ret;exact ⟨rfl,HH.out,Upd.refl _ _⟩
 |false=>
  cases H with
  |true=>
   go_enter Tryz.func161,Tryz.ntmps161;go_wp2_with fail
   refine HS.out.mono ?_;rintro r w1 ⟨rfl,rfl⟩;go_wp2;go_ret;exact ⟨rfl,HH.out,Upd.refl _ _⟩
  |false=>
   go_enter Tryz.func161,Tryz.ntmps161;go_wp2_with fail
   refine HS.out.mono ?_;rintro r w1 ⟨rfl,rfl⟩;go_wp2_with fail
   go_quiet ((go_at_call 162;exact Jj (HM.out _ (HH.out.drewN _))))
   go_wp2;go_ret;refine ⟨?_,HH.out.drewN _,(Upd.refl _ w).drewN _⟩;simp
def LgL.nextL (g:LgL) (f:Bool):List Ent:=
 if g.paused=true∨g.u.has=true then [] else if g.most f≤g.apg then [] else (g.range (g.apg+1) (g.most f+1)).take (lim (g.range (g.apg+1) (g.most f+1)) (g.size - g.usg))
theorem lgNext (h:Jf N w J g) (ho:g.Ok) (f:Bool) (hu:g.paused=false→g.u.has=false→g.apg<g.most f→g.usg<g.size∧g.first≤g.apg+1):
  Calls Tryz.prog 160 #[.pointer (some ⟨J.l,0,none⟩),.bool f] w fun e w'=>∃t:SlV,e=.returned (.slice t.A t.n t.c)∧PArr N w' 0 t (g.nextL f)∧Jf N w' J g∧Upd (fun k=>k=J.I.ms) w w':=by
 have c7:=h.c7;have c9:=h.c9;have c10:=h.c10;have c11:=h.c11;have HH:=qq h;have HM:=qq fun (w:World) (h:Jf N w J g)=>lgMost h ho f;have HS:=qq (lgHas h);have mb:=ho.most_bd f;have a0:=ho.a0;have a1:=ho.a1;have a2:=ho.a2;have z2:=ho.z2;have g0:=ho.g0;have hc1:=ho.c1;rcases hP:g.paused with _|_
 ·rcases hH:g.u.has with _|_
  ·by_cases hlt:g.apg<g.most f
   ·obtain ⟨hu1,hu2⟩:=hu hP hH hlt;have HSL:=qq fun (w:World) (h:Jf N w J g)=>lgSlice (lo:=g.apg+1) (hi:=g.most f+1) (max:=g.size - g.usg) h ho (by omega) (by omega) (by omega) hu2 (by omega) (by omega);have hN:g.nextL f=(g.range (g.apg+1) (g.most f+1)).take (lim (g.range (g.apg+1) (g.most f+1)) (g.size - g.usg)):=by unfold LgL.nextL;rw [hP,hH,if_neg (by decide),if_neg (by omega)]
    rw [hN];generalize (g.range (g.apg+1) (g.most f+1)).take (lim (g.range (g.apg+1) (g.most f+1)) (g.size - g.usg))=R at*;rw [hP] at c11;rw [hH] at HS;generalize g.most f=M at*;generalize g.apg=A at*;clear h ho hN hP hH hu;go_enter Tryz.func160,Tryz.ntmps160;go_wp2_with fail
    refine HS.out.mono ?_;rintro r w1 ⟨rfl,rfl⟩;go_wp2_with fail
    go_quiet ((go_at_call 162;exact Jj (HM.out _ (HH.out.drewN _))))
    go_wp2_with fail
    go_quiet (fail)
    have d1:0<g.size - g.usg:=by omega
    go_wp2_with fail
    refine (HSL.out _ (HH.out.drewN _)).mono ?_;rintro r w3 ⟨t,rfl,hP,hR3,hV3⟩;have HP:=qq hP;clear hP;go_wp2;go_ret;exact ⟨t,rfl,HP.out,hR3,((Upd.refl _ w).drewN _).Ke hV3⟩
   ·have hN:g.nextL f=[]:=by unfold LgL.nextL;rw [hP,hH,if_neg (by decide),if_pos (by omega)]
    rw [hN];rw [hP] at c11;rw [hH] at HS;have hge:g.most f≤g.apg:=by omega
    generalize g.most f=M at*;generalize g.apg=A at*;clear h ho hN hP hH hu;go_enter Tryz.func160,Tryz.ntmps160;go_wp2_with fail
    refine HS.out.mono ?_;rintro r w1 ⟨rfl,rfl⟩;go_wp2_with fail
    go_quiet ((go_at_call 162;exact Jj (HM.out _ (HH.out.drewN _))))
    go_wp2;go_ret;exact ⟨⟨none,0,0⟩,rfl,PArr.nil N _ 0,HH.out.drewN _,(Upd.refl _ w).drewN _⟩
  ·have hN:g.nextL f=[]:=by unfold LgL.nextL;rw [hP,hH,if_pos (.inr rfl)]
   rw [hN];rw [hP] at c11;rw [hH] at HS;clear h ho hN hP hH hu;go_enter Tryz.func160,Tryz.ntmps160;go_wp2_with fail
   refine HS.out.mono ?_;rintro r w1 ⟨rfl,rfl⟩;go_wp2;go_ret;exact ⟨⟨none,0,0⟩,rfl,PArr.nil N _ 0,HH.out,Upd.refl _ w⟩
 ·have hN:g.nextL f=[]:=by unfold LgL.nextL;rw [hP,if_pos (.inl rfl)]
  rw [hN];rw [hP] at c11;clear h ho hN hP hu;go_enter Tryz.func160,Tryz.ntmps160;go_wp2;go_ret;exact ⟨⟨none,0,0⟩,rfl,PArr.nil N _ 0,HH.out,Upd.refl _ w⟩
def TlL.next (u:TlL):List Ent:=u.es.drop (u.till - u.off).toNat
theorem uNext (h:Jf N w J g) (ho:g.Ok):
  Calls Tryz.prog 210 #[.pointer (some ⟨J.l,1,none⟩)] w fun e w'=>∃t:SlV,e=.returned (.slice t.A t.n t.c)∧PArr N w' 0 t g.u.next∧Upd No w w'∧Jf N w' J g:=by
 have c2:=h.c2;have c3:=h.c3;have c5:=h.c5;have HH:=qq h;have t1:=ho.u.t1;have t2:=ho.u.t2;have o1:=ho.u.o1;have e2:=ho.u.e2;have hl:=h.ue.len;have hc:=h.ue.cap;unfold TlL.end_ at t2 e2;obtain ⟨k,hk⟩:=Int.eq_ofNat_of_zero_le (show 0≤g.u.till - g.u.off by omega);have hlen:=ho.u.len;have hE:(g.u.till - g.u.off).toNat=k:=by omega
 unfold TlL.next;rw [hE];by_cases hq:J.ue.n=k
 ·have HQ:=qq hq;have hn:g.u.es.drop k=[]:=List.drop_eq_nil_of_le (by omega);rw [hn];have hb:((J.ue.n:Int)==(k:Int))=true:=by rw [beq_iff_eq];omega
  have hu9:J.ue.n≤20000:=by omega
  clear h ho hq hn hl hE;go_enter Tryz.func210,Tryz.ntmps210;go_wp2_with fail
  go_quiet (fail)
  go_wp2;go_ret;exact ⟨⟨none,0,0⟩,rfl,PArr.nil N _ 0,(Upd.refl _ w).drewN _,HH.out.drewN _⟩
 ·have hb:((J.ue.n:Int)==(k:Int))=false:=beq_eq_false_iff_ne.2 (by omega);obtain ⟨b,o,p,hA,_⟩:=h.ue.at_ (k:=k) (by omega);have hP:=h.ue;rw [hA] at c2;rw [show J.ue=⟨J.ue.A,J.ue.n,J.ue.c⟩ from rfl,hA] at hP;have HD:=qq (hP.drop_ (a:=k) (by omega));have hu9:J.ue.n≤20000:=by omega
  have hkn:k<J.ue.n:=by omega
  have hkc:¬J.ue.c=k:=by omega
  have hkc2:k≤J.ue.c:=by omega
  clear h ho hq hl hE hA hP;go_enter Tryz.func210,Tryz.ntmps210;go_wp2_with fail
  go_quiet (fail)
  go_wp2;go_ret;exact ⟨⟨some ⟨b,o+k,none⟩,J.ue.n - k,J.ue.c - k⟩,rfl,(HD.out.weak0).upd ((Upd.refl No w).drewN _) ((Upd.refl No w).drewN _).fr0 (fun _ _ _ h=>h),(Upd.refl _ w).drewN _,HH.out.drewN _⟩
theorem TlL.Ok.next_len {u:TlL} (ho:u.Ok):(u.next.length:Int)=u.end_ - u.till:=by
 have:=ho.t1
 have:=ho.t2
 unfold TlL.next TlL.end_ at*;rw [List.length_drop];omega
theorem lgUNext (h:Jf N w J g) (ho:g.Ok):
  Calls Tryz.prog 165 #[.pointer (some ⟨J.l,0,none⟩)] w fun e w'=>∃t:SlV,e=.returned (.slice t.A t.n t.c)∧PArr N w' 0 t g.u.next∧Upd No w w'∧Jf N w' J g:=by
 have HC:=qq (uNext h ho);have c1:=h.c1;clear h ho;go_enter Tryz.func165,Tryz.ntmps165;go_wp2_with fail
 refine HC.out.mono ?_;rintro r w1 ⟨t,rfl,hP,hU,hR⟩;have HP:=qq hP;clear hP;go_wp2;go_ret;exact ⟨t,rfl,HP.out,hU,hR⟩
theorem lgHasUNext (h:Jf N w J g) (ho:g.Ok):
  Calls Tryz.prog 166 #[.pointer (some ⟨J.l,0,none⟩)] w fun e w'=>e=.returned (.bool (decide (0<g.u.next.length)))∧Upd No w w'∧Jf N w' J g:=by
 have HC:=qq (lgUNext h ho);clear h ho;go_enter Tryz.func166,Tryz.ntmps166;go_wp2_with fail
 refine HC.out.mono ?_;rintro r w1 ⟨t,rfl,hP,hU,hR⟩;have HL:=qq hP.len;clear hP;go_wp2;go_ret;refine ⟨?_,hU,hR⟩;rw [HL.out];simp
theorem lgGoing (h:Jf N w J g):
  Calls Tryz.prog 167 #[.pointer (some ⟨J.l,0,none⟩)] w fun e w'=>e=.returned (.bool (decide (0<g.u.es.length)))∧w=w':=by
 have c2:=h.c2;have HL:=qq h.ue.len;clear h;go_enter Tryz.func167,Tryz.ntmps167;go_wp2;go_ret;refine ⟨?_,rfl⟩;rw [HL.out];simp
theorem TlL.Ok.small {u:TlL} (h:u.Ok):u.snap.small:=⟨h.cf,h.d⟩
theorem StL.Ok.small {s:StL} (h:s.Ok):s.snap.small:=⟨h.cf,h.d⟩
theorem uNextSnap (h:Jf N w J g) (ho:g.Ok) (hg:g.u.has=true∧g.u.going=false):
  Calls Tryz.prog 215 #[.pointer (some ⟨J.l,1,none⟩)] w fun e w'=>∃q m,e=.returned (.pointer (some ⟨q,0,none⟩))∧Kf N w' q m g.u.snap∧Upd No w w'∧Jf N w' J g:=by
 have c1:=h.c1;have c4:=h.c4;rcases h.us with ⟨h1,h2⟩|⟨sn,h1,h2,h3,_⟩
 ·rw [hg.1] at h2;cases h2
 have HH:=qq h;rw [h1] at c1;rw [hg.2] at c4;have HC:=qq (snapClone N sn J.um g.u.snap w h3 ho.u.small);clear h ho hg h1 h2 h3;go_enter Tryz.func215,Tryz.ntmps215;go_wp2_with fail
 refine HC.out.mono ?_;rintro r w1 ⟨q,m,rfl,hS,hU,_,_⟩;go_wp2;go_ret;exact ⟨q,m,rfl,hS,hU,HH.out.no hU⟩
theorem uNextSnap_no (h:Jf N w J g) (hg:g.u.has=false∨g.u.going=true):
  Calls Tryz.prog 215 #[.pointer (some ⟨J.l,1,none⟩)] w fun e w'=>e=.returned (.pointer none)∧w=w':=by
 have c1:=h.c1;have c4:=h.c4;rcases h.us with ⟨h1,h2⟩|⟨sn,h1,h2,h3,_⟩
 ·rw [h1] at c1;clear h hg h1 h2;go_enter Tryz.func215,Tryz.ntmps215;go_wp2;go_ret;exact ⟨rfl,rfl⟩
 ·rcases hg with hg|hg
  ·rw [hg] at h2;cases h2
  ·rw [h1] at c1;rw [hg] at c4;clear h hg h1 h2 h3;go_enter Tryz.func215,Tryz.ntmps215;go_wp2;go_ret;exact ⟨rfl,rfl⟩
theorem lgNextSnap (h:Jf N w J g) (ho:g.Ok) (hg:g.u.has=true∧g.u.going=false):
  Calls Tryz.prog 172 #[.pointer (some ⟨J.l,0,none⟩)] w fun e w'=>∃q m,e=.returned (.pointer (some ⟨q,0,none⟩))∧Kf N w' q m g.u.snap∧Upd No w w'∧Jf N w' J g:=by
 have HC:=qq (uNextSnap h ho hg);have c1:=h.c1;clear h ho hg;go_enter Tryz.func172,Tryz.ntmps172;go_wp2_with fail
 refine HC.out.mono ?_;rintro r w1 ⟨q,m,rfl,hS,hU,hR⟩;go_wp2;go_ret;exact ⟨q,m,rfl,hS,hU,hR⟩
theorem lgNextSnap_no (h:Jf N w J g) (hg:g.u.has=false∨g.u.going=true):
  Calls Tryz.prog 172 #[.pointer (some ⟨J.l,0,none⟩)] w fun e w'=>e=.returned (.pointer none)∧w=w':=by
 have HC:=qq (uNextSnap_no h hg);have c1:=h.c1;clear h hg;go_enter Tryz.func172,Tryz.ntmps172;go_wp2_with fail
 refine HC.out.mono ?_;rintro r w1 ⟨rfl,rfl⟩;go_wp2;go_ret;exact ⟨rfl,rfl⟩
theorem lgHasNextSnap (h:Jf N w J g) (ho:g.Ok):
  Calls Tryz.prog 178 #[.pointer (some ⟨J.l,0,none⟩)] w fun e w'=>e=.returned (.bool (g.u.has && !g.u.going))∧Upd No w w'∧Jf N w' J g:=by
 have c1:=h.c1;have HH:=qq h;by_cases hg:g.u.has=true∧g.u.going=false
 ·have HC:=qq (uNextSnap h ho hg);rw [hg.1,hg.2];clear h ho hg;go_enter Tryz.func178,Tryz.ntmps178;go_wp2_with fail
  refine HC.out.mono ?_;rintro r w1 ⟨q,m,rfl,hS,hU,hR⟩;go_wp2;go_ret;exact ⟨rfl,hU,hR⟩
 ·have hg':g.u.has=false∨g.u.going=true:=by
   rcases hh:g.u.has with _|_
   ·exact .inl rfl
   ·rcases h2:g.u.going with _|_
    ·exact absurd ⟨hh,h2⟩ hg
    ·exact .inr rfl
  have HC:=qq (uNextSnap_no h hg');rw [show (g.u.has && !g.u.going)=false by rcases hg' with h|h<;>simp [h]];clear h ho hg hg';go_enter Tryz.func178,Tryz.ntmps178;go_wp2_with fail
  refine HC.out.mono ?_;rintro r w1 ⟨rfl,rfl⟩;go_wp2;go_ret;exact ⟨rfl,Upd.refl _ _,HH.out⟩
end
end Go.Proofs.YtmagnkjodjmojaaGreat
