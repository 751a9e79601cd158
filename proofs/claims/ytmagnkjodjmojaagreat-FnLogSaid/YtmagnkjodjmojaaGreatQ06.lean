/- A part of the proof of FnLog: laws and walks, with their conditions written at each. -/
import Derived.Laws.CopyOwn
import Derived.Test.YtmagnkjodjmojaaGreatQ05
set_option maxRecDepth 20000
set_option maxHeartbeats 4000000
set_option linter.all false
namespace Go.Proofs.YtmagnkjodjmojaaGreat
open Go.RowKit
structure LId where
 I:SId
 l:Nat
 up:Option Addr
 um:Nat
 ue:SlV
structure Jf (N:Nat) (w:World) (J:LId) (g:LgL):Prop where
 blk:Blk w J.l 214 (logCells J.I.ms J.up J.ue g)
 st:Je N w J.I g.s
 ue:PArr N w 0 J.ue g.u.es
 us:(J.up=none∧g.u.has=false)∨∃sn,J.up=some ⟨sn,0,none⟩∧g.u.has=true∧Kf N w sn J.um g.u.snap∧sn≠J.I.sn∧J.um≠J.I.md
 N:N≤J.l
 sep:∀b o b' o',J.I.es.A=some ⟨b,o,none⟩→J.ue.A=some ⟨b',o',none⟩→0<J.ue.c→b≠b'
theorem PArr.upd_ {N:Nat} {w w':World} {S:Nat→Prop} {d:Nat} {s:SlV} {es:List Ent} (h:PArr N w d s es) (hu:Upd S w w') (hf:Fr N w w') (hS:∀b,S b→Ty w b 122→False):PArr N w' d s es:=
 ⟨h.len,h.cap,fun hc=>by
  obtain ⟨b,o,cs,ha,hb,ho,hN,hj⟩:=h.arr hc
  exact ⟨b,o,cs,ha,hb.upd hu (fun h=>hS b h hb.ty),ho,hN,fun j hj'=>by
   obtain ⟨p,hp,he⟩:=hj j hj'
   exact ⟨p,hp,he.fr hf⟩⟩⟩
section
variable {N:Nat} {w:World} {J:LId} {g:LgL}
theorem Jf.rdus (h:Jf N w J g):RdUs N w J.up g.u:=h.us.imp id fun ⟨sn,h1,h2,h3,_⟩=>⟨sn,J.um,h1,h2,h3⟩
theorem Jf.msl (h:Jf N w J g):J.l≠J.I.ms:=by
 obtain ⟨_,_,_,_,_,_,_,hb,_⟩:=h.st.blk;exact h.blk.ne_ hb (by decide)
theorem Jf.stats {w':World} (h:Jf N w J g) (hs:Je N w' J.I g.s) (hu:Upd (fun k=>k=J.I.ms) w w'):Jf N w' J g:=by
 obtain ⟨_,_,_,_,_,_,_,hb,_⟩:=id h.st.blk;have hf:Fr N w w':=hu.fr (by rintro k rfl;exact hb.mutb h.st.N rfl);refine ⟨h.blk.upd hu h.msl,hs,h.ue.upd_ hu hf (by rintro k rfl ht;exact hb.ty.ne_ ht (by decide) rfl),?_,h.N,h.sep⟩
 ·rcases h.us with h1|⟨sn,h1,h2,h3,h4⟩
  ·exact .inl h1
  ·obtain ⟨_,_,_,_,hb1,hm1,_⟩:=id h3;exact .inr ⟨sn,h1,h2,h3.upd hu hf (fun h=>hb1.ne_ hb (by decide) h) (fun h=>hm1.ne_ hb (by decide) h),h4⟩
theorem Jf.drewN (h:Jf N w J g) (n:Nat):Jf N (w.drewN n) J g:=h.stats (h.st.drewN n) ((Upd.refl _ w).drewN n)
theorem lgFirst (h:Jf N w J g) (ho:g.Ok):
  Calls Tryz.prog 154 #[.pointer (some ⟨J.l,0,none⟩)] w fun e w'=>e=.returned (.int .u64 g.first)∧Jf N w' J g∧Upd (fun k=>k=J.I.ms) w w':=by
 have hb:=h.blk;have hr:=h.rdus;have c0:w.cell? ⟨J.l,0,none⟩=some (.iface 86 (pp J.I.ms)):=hb.cell 0;have HH:=qq h;have HO:=qq ho;rcases hr with ⟨hup,hh⟩|⟨sn,md,hup,hh,_⟩
 ·have hF:g.first=g.s.first:=by unfold LgL.first;rw [hh];rfl
  rw [hF];have HM:=qq (maybeFirst_none (by rw [hup] at hb;exact hb));have fi:∀a w,(method 385 86 (.pointer (some a)) "FirstIndex").run Tryz.prog w=.ok (131,.pointer (some a)) w:=fun a w=>by kernel_rfl
  have HS:=qq (stFirst h.st ho.s);clear h ho hb hup hF hh;go_enter Tryz.func154,Tryz.ntmps154;go_wp2_with fail
  refine HM.out.mono ?_;rintro r w' ⟨rfl,rfl⟩;go_wp2_with fail
  refine HS.out.mono ?_;rintro r w' ⟨rfl,hs,hu⟩;go_wp2;go_ret;exact ⟨rfl,HH.out.stats hs hu,hu⟩
 ·have hF:g.first=g.u.snap.index+1:=by unfold LgL.first;rw [hh];rfl
  rw [hF];have HM:=qq (maybeFirst_some (by rw [hup] at hb;exact hb) (by have:=h.rdus;rw [hup] at this;exact this) ho.u);clear h ho hb hup hF hh;go_enter Tryz.func154,Tryz.ntmps154;go_wp2_with fail
  refine HM.out.mono ?_;rintro r w' ⟨rfl,rfl⟩;go_wp2;go_ret;exact ⟨rfl,HH.out,Upd.refl _ _⟩
theorem lgLast (h:Jf N w J g) (ho:g.Ok):
  Calls Tryz.prog 155 #[.pointer (some ⟨J.l,0,none⟩)] w fun e w'=>e=.returned (.int .u64 g.last)∧Jf N w' J g∧Upd (fun k=>k=J.I.ms) w w':=by
 have hb:=h.blk;have hr:=h.rdus;have c0:w.cell? ⟨J.l,0,none⟩=some (.iface 86 (pp J.I.ms)):=hb.cell 0;have HH:=qq h;have HO:=qq ho;by_cases hn:g.u.es.length=0
 ·rcases hr with ⟨hup,hh⟩|⟨sn,md,hup,hh,_⟩
  ·have hF:g.last=g.s.last:=by unfold LgL.last;rw [hh,if_neg (by omega)];rfl
   rw [hF];have HM:=qq (maybeLast_none (by rw [hup] at hb;exact hb) h.ue hn);have fi:∀a w,(method 385 86 (.pointer (some a)) "LastIndex").run Tryz.prog w=.ok (132,.pointer (some a)) w:=fun a w=>by kernel_rfl
   have HS:=qq (stLast h.st ho.s);clear h ho hb hup hF hh hn;go_enter Tryz.func155,Tryz.ntmps155;go_wp2_with fail
   refine HM.out.mono ?_;rintro r w' ⟨rfl,rfl⟩;go_wp2_with fail
   refine HS.out.mono ?_;rintro r w' ⟨rfl,hs,hu⟩;go_wp2;go_ret;exact ⟨rfl,HH.out.stats hs hu,hu⟩
  ·have hF:g.last=g.u.snap.index:=by unfold LgL.last;rw [hh,if_neg (by omega)];rfl
   rw [hF];have HM:=qq (maybeLast_some (by rw [hup] at hb;exact hb) h.ue (by have:=h.rdus;rw [hup] at this;exact this) hn);clear h ho hb hup hF hh hn;go_enter Tryz.func155,Tryz.ntmps155;go_wp2_with fail
   refine HM.out.mono ?_;rintro r w' ⟨rfl,rfl⟩;go_wp2;go_ret;exact ⟨rfl,HH.out,Upd.refl _ _⟩
 ·have hF:g.last=g.u.end_ - 1:=by unfold LgL.last;rw [if_pos hn]
  rw [hF];have HM:=qq (maybeLast_ents hb h.ue ho.u hn);clear h ho hb hF hn hr;go_enter Tryz.func155,Tryz.ntmps155;go_wp2_with fail
  refine HM.out.mono ?_;rintro r w' ⟨rfl,rfl⟩;go_wp2;go_ret;exact ⟨rfl,HH.out,Upd.refl _ _⟩
theorem mTerm (h:Jf N w J g) (ho:g.Ok) {i:Int}:
  Calls Tryz.prog 203 #[.pointer (some ⟨J.l,1,none⟩),.int .u64 i] w fun e w'=>e=.returned (.tuple #[.int .u64 ((g.u.term i).getD 0),.bool (g.u.term i).isSome])∧∃n,w.drewN n=w':=by
 have hb:=h.blk;have hq:∀{v:Value},(Calls Tryz.prog 203 #[.pointer (some ⟨J.l,1,none⟩),.int .u64 i] w fun e w'=>e=.returned v∧w=w')→Calls Tryz.prog 203 #[.pointer (some ⟨J.l,1,none⟩),.int .u64 i] w fun e w'=>e=.returned v∧∃n,w.drewN n=w':=
  fun hc=>hc.mono fun _ _ ⟨h1,h2⟩=>⟨h1,0,h2⟩
 by_cases h1:g.u.off≤i
 ·by_cases h2:i<g.u.end_
  ·have ht:g.u.term i=some (ent g.u.es (i - g.u.off)).term:=by unfold TlL.term;rw [if_pos ⟨h1,h2⟩]
   rw [ht];exact maybeTerm_hit hb h.ue ho.u h1 h2
  ·have ht:g.u.term i=none:=by unfold TlL.term;rw [if_neg (by omega),if_neg (by omega)]
   rw [ht];refine hq ?_;by_cases hn:g.u.es.length=0
   ·rcases h.rdus with ⟨hup,hh⟩|⟨sn,md,hup,hh,_⟩
    ·exact maybeTerm_far hb h1 (maybeLast_none (by rw [hup] at hb;exact hb) h.ue hn) (.inl rfl)
    ·have:=ho.u.hs hh
     exact maybeTerm_far hb h1 (maybeLast_some (by rw [hup] at hb;exact hb) h.ue (by have:=h.rdus;rw [hup] at this;exact this) hn) (.inr (by omega))
   ·exact maybeTerm_far hb h1 (maybeLast_ents hb h.ue ho.u hn) (.inr (by omega))
 ·refine hq ?_;rcases h.rdus with ⟨hup,hh⟩|⟨sn,md,hup,hh,_⟩
  ·have ht:g.u.term i=none:=by unfold TlL.term;rw [hh,if_neg (by omega),if_neg (by simp)]
   rw [ht];exact maybeTerm_none (by rw [hup] at hb;exact hb) (by omega)
  ·by_cases he:g.u.snap.index=i
   ·have ht:g.u.term i=some g.u.snap.term:=by unfold TlL.term;rw [if_neg (by omega),if_pos ⟨hh,he,by omega⟩]
    rw [ht];exact maybeTerm_snap (by rw [hup] at hb;exact hb) (by have:=h.rdus;rw [hup] at this;exact this) (by omega) he
   ·have ht:g.u.term i=none:=by unfold TlL.term;rw [if_neg (by omega),if_neg (by simp [he])]
    rw [ht];exact maybeTerm_snap_no (by rw [hup] at hb;exact hb) (by have:=h.rdus;rw [hup] at this;exact this) (by omega) he
theorem LgL.Ok.in_store (ho:g.Ok) {i:Int} (ht:g.u.term i=none) (h1:¬i+1<g.first) (h2:¬g.last<i):g.s.atI≤i∧i≤g.s.last:=by
 unfold TlL.term at ht;split at ht
 ·cases ht
 rename_i h3
 split at ht
 ·cases ht
 rename_i h4
 have ho1:=ho.u.hs;have ho2:=ho.gap;unfold LgL.first LgL.last TlL.end_ StL.first StL.last at*;rcases hh:g.u.has with _|_
 ·rw [hh] at h1 h2 h4;have:=ho2 hh;simp at h1 h2;by_cases hn:g.u.es.length=0
  ·simp [hn] at h2;omega
  ·have hn':¬g.u.es=[]:=by rintro h;simp [h] at hn
   simp [hn'] at h2;omega
 ·rw [hh] at h1 h2 h4;have:=ho1 hh;simp at h1 h2 h4;by_cases hn:g.u.es.length=0
  ·simp [hn] at h2;omega
  ·have hn':¬g.u.es=[]:=by rintro h;simp [h] at hn
   simp [hn'] at h2;omega
theorem StL.Ok.term_in {s:StL} (_ho:s.Ok) {i:Int} (h1:s.atI≤i) (h2:i≤s.last):(s.term i).2=0:=by
 unfold StL.term;rw [if_neg (by omega),if_neg (by omega)];split<;>rfl
theorem lgTerm (h:Jf N w J g) (ho:g.Ok) {i:Int} (hi0:0≤i) (hi:i<4611686018427387905):
  Calls Tryz.prog 147 #[.pointer (some ⟨J.l,0,none⟩),.int .u64 i] w fun e w'=>e=.returned (.tuple #[.int .u64 (g.term i).1,errV (g.term i).2])∧Jf N w' J g∧Upd (fun k=>k=J.I.ms) w w':=by
 have hb:=h.blk;have c0:w.cell? ⟨J.l,0,none⟩=some (.iface 86 (pp J.I.ms)):=hb.cell 0;have HM:=qq (mTerm h ho (i:=i));have HH:=qq h;have HO:=qq ho;rcases ht:g.u.term i with _|t
 ·rw [ht] at HM;by_cases h1:i+1<g.first
  ·have hE:g.term i=(0,1):=by unfold LgL.term;rw [ht];simp only;rw [if_pos h1]
   rw [hE];rw [show errV ((0:Int),(1:Int)).2=.iface 176 (.string errCompS) from rfl];clear h ho hb c0 hE ht;go_enter Tryz.func147,Tryz.ntmps147;go_wp2_with fail
   refine HM.out.mono ?_;rintro r w' ⟨rfl,m,rfl⟩;go_wp2_with fail
   refine (lgFirst (HH.out.drewN _) HO.out).mono ?_;rintro r w' ⟨rfl,h2,hu2⟩;go_wp2;go_ret2;exact ⟨rfl,h2,((Upd.refl _ w).drewN m).Ke hu2⟩
  ·by_cases h2:g.last<i
   ·have hE:g.term i=(0,3):=by unfold LgL.term;rw [ht];simp only;rw [if_neg h1,if_pos h2]
    rw [hE];rw [show errV ((0:Int),(3:Int)).2=.iface 176 (.string errUnavS) from rfl];clear h ho hb c0 hE ht;go_enter Tryz.func147,Tryz.ntmps147;go_wp2_with fail
    refine HM.out.mono ?_;rintro r w' ⟨rfl,m,rfl⟩;go_wp2_with fail
    refine (lgFirst (HH.out.drewN _) HO.out).mono ?_;rintro r w' ⟨rfl,h2',hu2⟩;go_wp2_with fail
    refine (lgLast h2' HO.out).mono ?_;rintro r w' ⟨rfl,h3,hu3⟩;go_wp2;go_ret2;exact ⟨rfl,h3,(((Upd.refl _ w).drewN m).Ke hu2).Ke hu3⟩
   ·obtain ⟨hi1,hi2⟩:=ho.in_store ht h1 h2;have hE:g.term i=((g.s.term i).1,0):=by unfold LgL.term;rw [ht];simp only;rw [if_neg h1,if_neg h2,←ho.s.term_in hi1 hi2]
    rw [hE];rw [show ∀t:Int,errV (t,(0:Int)).2=.nilIface from fun _=>rfl];have fi:∀a w,(method 385 86 (.pointer (some a)) "Term").run Tryz.prog w=.ok (130,.pointer (some a)) w:=fun a w=>by kernel_rfl
    have HMS:=qq h.msl;have hl:J.l≠J.I.ms:=h.msl;clear h ho hb hE ht;go_enter Tryz.func147,Tryz.ntmps147;go_wp2_with fail
    refine HM.out.mono ?_;rintro r w' ⟨rfl,m,rfl⟩;go_wp2_with fail
    refine (lgFirst (HH.out.drewN _) HO.out).mono ?_;rintro r w' ⟨rfl,h2',hu2⟩;go_wp2_with fail
    refine (lgLast h2' HO.out).mono ?_;rintro r w2 ⟨rfl,h3,hu3⟩;have c0':w2.cell? ⟨J.l,0,none⟩=some (.iface 86 (pp J.I.ms)):=h3.blk.cell 0;go_wp2_with fail
    refine (stTerm h3.st HO.out.s hi1 hi2).mono ?_;rintro r w3 ⟨rfl,h4,hu4⟩;go_wp2;go_ret2;exact ⟨rfl,h3.stats h4 hu4,((((Upd.refl _ w).drewN m).Ke hu2).Ke hu3).Ke hu4⟩
 ·rw [ht] at HM;have hE:g.term i=(t,0):=by unfold LgL.term;rw [ht]
  rw [hE];rw [show ∀t:Int,errV (t,(0:Int)).2=.nilIface from fun _=>rfl];clear h ho hb c0 hE ht;go_enter Tryz.func147,Tryz.ntmps147;go_wp2_with fail
  refine HM.out.mono ?_;rintro r w' ⟨rfl,m,rfl⟩;go_wp2;go_ret2;exact ⟨rfl,HH.out.drewN _,(Upd.refl _ w).drewN m⟩
end
def LgL.conflict (g:LgL):List Ent→Int
 |[]=>0
 |e::r=>if g.matches e.term e.index=true then g.conflict r else e.index
def LgL.byTerm (g:LgL) (t:Int):Nat→Int×Int
 |0=>(0,0)
 |i+1=>if (g.term ((i+1:Nat):Int)).2≠0 then (((i+1:Nat):Int),0) else if (g.term ((i+1:Nat):Int)).1≤t then (((i+1:Nat):Int),(g.term ((i+1:Nat):Int)).1) else g.byTerm t i
def LgL.lastT (g:LgL):Int:=(g.term g.last).1
section
variable {N:Nat} {w:World} {J:LId} {g:LgL}
theorem Jf.no {w':World} (h:Jf N w J g) (hu:Upd No w w'):Jf N w' J g:=
 h.stats (h.st.upd hu hu.fr0 (fun h=>h) (fun h=>h) (fun h=>h) (fun _ _ _ h=>h)) hu.ofNo
def logT (T:TypeId):Bool:=T==214||T==134||T==122||T==189||T==235
theorem Jf.lt (h:Jf N w J g):N<w.heap.size:=Nat.lt_of_le_of_lt h.N h.blk.lt
theorem Jf.upd {w':World} {S:Nat→Prop} (h:Jf N w J g) (hu:Upd S w w') (hf:Fr N w w') (hS:∀k T,S k→Ty w k T→logT T=true→False):Jf N w' J g:=by
 obtain ⟨_,_,_,_,_,_,_,hb,_⟩:=id h.st.blk;obtain ⟨_,_,_,_,hb1,hm1,_⟩:=id h.st.sn;refine ⟨h.blk.upd hu (fun hk=>hS _ _ hk h.blk.ty rfl),h.st.upd hu hf (fun hk=>hS _ _ hk hb.ty rfl) (fun hk=>hS _ _ hk hb1.ty rfl) (fun hk=>hS _ _ hk hm1.ty rfl) ?_,h.ue.upd_ hu hf (fun b hk ht=>hS _ _ hk ht rfl),?_,h.N,h.sep⟩
 ·intro b o hA hk;obtain ⟨b',o',p,hA',hc⟩:=h.st.ents_at (j:=0) (by omega);rw [hA] at hA';cases hA';obtain ⟨g',o'',cs,hA'',hB,_⟩:=h.st.es.arr (by have:=h.st.es.cap;have:=h.st.es.len;simp at this;omega);rw [hA] at hA'';cases hA'';exact hS _ _ hk hB.ty rfl
 ·rcases h.us with h1|⟨sn,h1,h2,h3,h4⟩
  ·exact .inl h1
  ·obtain ⟨_,_,_,_,hb1,hm1,_⟩:=id h3;exact .inr ⟨sn,h1,h2,h3.upd hu hf (fun hk=>hS _ _ hk hb1.ty rfl) (fun hk=>hS _ _ hk hm1.ty rfl),h4⟩
theorem Jf.own {w':World} {k:Nat} {T:TypeId} {cs:Array Value} (h:Jf N w J g) (hu:Upd (fun j=>j=k) w w') (hb:Blk w k T cs) (hN:N≤k) (hT:logT T=false) (hi:immT T=false):Jf N w' J g:=
 h.upd hu (hu.fr (by rintro j rfl;exact hb.mutb hN hi)) (by
  rintro j T' rfl ht hl;by_cases e:T=T'
  ·subst e;rw [hT] at hl;cases hl
  ·exact hb.ty.ne_ ht e rfl)
theorem StL.err_is (s:StL) (i:Int):(s.term i).2=0∨(s.term i).2=1∨(s.term i).2=3:=by
 unfold StL.term;split
 ·exact .inr (.inl rfl)
 split
 ·exact .inr (.inr rfl)
 split
 ·exact .inl rfl
 ·exact .inl rfl
theorem LgL.err_is (g:LgL) (i:Int):(g.term i).2=0∨(g.term i).2=1∨(g.term i).2=3:=by
 unfold LgL.term;split
 ·exact .inl rfl
 split
 ·exact .inr (.inl rfl)
 split
 ·exact .inr (.inr rfl)
 ·exact g.s.err_is i
theorem lgMatch (h:Jf N w J g) (ho:g.Ok) {t i:Int} (hi0:0≤i) (hi:i<4611686018427387905):
  Calls Tryz.prog 146 #[.pointer (some ⟨J.l,0,none⟩),.agg #[.int .u64 t,.int .u64 i]] w fun e w'=>e=.returned (.bool (g.matches t i))∧Jf N w' J g∧Upd (fun k=>k=J.I.ms) w w':=by
 have HH:=qq h;have HO:=qq ho;have hE:g.matches t i=if (g.term i).2=0 then decide ((g.term i).1=t) else false:=by unfold LgL.matches;split<;>simp [*]
 rw [hE];have HT:=qq fun (w:World) (h:Jf N w J g)=>lgTerm h ho hi0 hi;have hms:w.heap.size≠J.I.ms:=by
  obtain ⟨_,_,_,_,_,_,_,hb,_⟩:=h.st.blk;have:=hb.lt;omega
 have hc:=g.err_is i;clear h ho hE;generalize g.term i=te at*;obtain ⟨T,E⟩:=te;simp only at hc;rcases hc with rfl|rfl|rfl
 ·rw [if_pos rfl];have e0:∀t:Int,errV (t,(0:Int)).2=.nilIface:=fun _=>rfl;rw [e0] at HT;go_enter Tryz.func146,Tryz.ntmps146;go_wp2_with fail
  refine (HT.out _ (HH.out.no ((Upd.refl No _).alloc _))).mono ?_;rintro r w' ⟨rfl,h2,hu2⟩;have b0:=hu2.cell (b:=w.heap.size) (o:=0) (v:=.int .u64 t) (by simp) hms;go_wp2;go_ret;refine ⟨?_,h2,((Upd.refl _ w).alloc _).Ke hu2⟩;by_cases hq:T=t<;>simp [hq]
 ·rw [if_neg (show ¬(1:Int)=0 by decide)];have e0:∀t:Int,errV (t,(1:Int)).2=.iface 176 (.string errCompS):=fun _=>rfl;rw [e0] at HT;go_enter Tryz.func146,Tryz.ntmps146;go_wp2_with fail
  refine (HT.out _ (HH.out.no ((Upd.refl No _).alloc _))).mono ?_;rintro r w' ⟨rfl,h2,hu2⟩;go_wp2;go_ret;exact ⟨rfl,h2,((Upd.refl _ w).alloc _).Ke hu2⟩
 ·rw [if_neg (show ¬(3:Int)=0 by decide)];have e0:∀t:Int,errV (t,(3:Int)).2=.iface 176 (.string errUnavS):=fun _=>rfl;rw [e0] at HT;go_enter Tryz.func146,Tryz.ntmps146;go_wp2_with fail
  refine (HT.out _ (HH.out.no ((Upd.refl No _).alloc _))).mono ?_;rintro r w' ⟨rfl,h2,hu2⟩;go_wp2;go_ret;exact ⟨rfl,h2,((Upd.refl _ w).alloc _).Ke hu2⟩
theorem LgL.Ok.last_there (ho:g.Ok):(g.term g.last).2=0:=by
 rcases ht:g.u.term g.last with _|t
 ·have h1:=ho.first_bd;have h2:¬g.last+1<g.first:=by omega
  have h3:¬g.last<g.last:=by omega
  obtain ⟨h4,h5⟩:=ho.in_store ht h2 h3;have h6:=ho.s.term_in h4 h5;unfold LgL.term;rw [ht];simp only;rw [if_neg h2,if_neg h3];exact h6
 ·unfold LgL.term;rw [ht]
theorem lgLastID (h:Jf N w J g) (ho:g.Ok):
  Calls Tryz.prog 157 #[.pointer (some ⟨J.l,0,none⟩)] w fun e w'=>e=.returned (.agg #[.int .u64 g.lastT,.int .u64 g.last])∧Jf N w' J g∧Upd (fun k=>k=J.I.ms) w w':=by
 have HH:=qq h;have HO:=qq ho;have hl:=ho.last_lt;have HT:=qq fun (w:World) (h:Jf N w J g)=>lgTerm h ho (i:=g.last) hl.2 (by omega);have HL:=qq fun (w:World) (h:Jf N w J g)=>lgLast h ho;have ht:=ho.last_there;rw [ht] at HT;rw [errV0] at HT;have hms:w.heap.size≠J.I.ms:=by
  obtain ⟨_,_,_,_,_,_,_,hb,_⟩:=h.st.blk;have:=hb.lt;omega
 unfold LgL.lastT;clear h ho ht;generalize (g.term g.last).1=T at*;generalize hL:g.last=L at*;clear hL;go_enter Tryz.func157,Tryz.ntmps157;go_wp2_with fail
 refine (HL.out _ (HH.out.no ((Upd.refl No _).alloc _))).mono ?_;rintro r w' ⟨rfl,h2,hu2⟩;go_wp2_with fail
 refine (HT.out _ h2).mono ?_;rintro r w'' ⟨rfl,h3,hu3⟩;have b0:Blk w'' w.heap.size 146 #[.int .u64 0,.int .u64 0]:=((Blk.new _ _ _).upd hu2 hms).upd hu3 hms;have f0:=b0.frozen 0;have f1:=b0.frozen 1;have c0:w''.cell? ⟨w.heap.size,0,none⟩=some (.int .u64 0):=b0.cell 0;have c1:w''.cell? ⟨w.heap.size,1,none⟩=some (.int .u64 0):=b0.cell 1;have B0:=qq b0;clear b0;go_wp2;refine bodyPost_ret (v:=.agg #[.int .u64 T,.int .u64 L]) (by simp [results,Tryz.results157,go_sem,c0,c1]) rfl ⟨rfl,?_,?_⟩
 ·exact h3.own (((Upd.refl (fun j=>j=w.heap.size) w'').setCell (.inl rfl) _).setCell (.inl rfl) _) B0.out (Nat.le_of_lt HH.out.lt) rfl rfl
 ·exact ((((Upd.refl _ w).alloc _).Ke hu2).Ke hu3 |>.setCell (.inr (Nat.le_refl _)) _).setCell (.inr (Nat.le_refl _)) _
theorem lgUpToDate (h:Jf N w J g) (ho:g.Ok) {t i:Int}:
  Calls Tryz.prog 145 #[.pointer (some ⟨J.l,0,none⟩),.agg #[.int .u64 t,.int .u64 i]] w fun e w'=>e=.returned (.bool (decide (g.lastT<t)||(decide (t=g.lastT) && decide (g.last≤i))))∧Jf N w' J g∧Upd (fun k=>k=J.I.ms) w w':=by
 have HH:=qq h;have HL:=qq fun (w:World) (h:Jf N w J g)=>lgLastID h ho;have hms:w.heap.size≠J.I.ms:=by
  obtain ⟨_,_,_,_,_,_,_,hb,_⟩:=h.st.blk;have:=hb.lt;omega
 generalize g.lastT=T at*;generalize g.last=L at*;clear h ho;go_enter Tryz.func145,Tryz.ntmps145;go_wp2_with fail
 refine (HL.out _ (HH.out.no ((Upd.refl No _).alloc _))).mono ?_;rintro r w' ⟨rfl,h2,hu2⟩;have b0:=hu2.cell (b:=w.heap.size) (o:=0) (v:=.int .u64 t) (by simp) hms;have b1:=hu2.cell (b:=w.heap.size) (o:=1) (v:=.int .u64 i) (by simp) hms;have d0:=fun o=>cell_alloc (o:=o) b0;have d1:=fun o=>cell_alloc (o:=o) b1;clear b0 b1;have q0:T<t∨(¬T<t∧t=T)∨(¬T<t∧¬t=T):=by omega
 rcases q0 with q1|⟨q1,q2⟩|⟨q1,q2⟩
 ·go_wp2;go_ret;exact ⟨by simp [q1],h2.no ((Upd.refl No _).alloc _),(((Upd.refl _ w).alloc _).Ke hu2).alloc _⟩
 ·subst q2;clear q1;go_wp2;go_ret;exact ⟨by simp,h2.no ((Upd.refl No _).alloc _),(((Upd.refl _ w).alloc _).Ke hu2).alloc _⟩
 ·have q3:(t==T)=false:=beq_eq_false_iff_ne.2 q2;go_wp2;go_ret;exact ⟨by simp [q1,q2],h2.no ((Upd.refl No _).alloc _),(((Upd.refl _ w).alloc _).Ke hu2).alloc _⟩
end
theorem Upd.setNew {S:Nat→Prop} {w w':World} {b:Nat} (h:Upd S w w') (hb:w.heap.size≤b) (o:Nat) (u:Value):Upd S w (w'.setCell ⟨b,o,none⟩ u):=h.setCell (a:=⟨b,o,none⟩) (.inr hb) u
theorem Upd.setIn {S:Nat→Prop} {w w':World} {b:Nat} (h:Upd S w w') (hb:S b) (o:Nat) (u:Value):Upd S w (w'.setCell ⟨b,o,none⟩ u):=h.setCell (a:=⟨b,o,none⟩) (.inl hb) u
def AllOk' (es:List Ent):Prop:=∀j,j<es.length→0≤(es.getD j default).index∧(es.getD j default).index<4611686018427387904
section
variable {N:Nat} {w:World} {J:LId} {g:LgL}
theorem entryID {p:Nat} {e:Ent} {real:Prop} (h:Kg N w p e real) (hN:N≤w.heap.size):
  Calls Tryz.prog 202 #[.pointer (some ⟨p,0,none⟩)] w fun r w'=>r=.returned (.agg #[.int .u64 e.term,.int .u64 e.index])∧Upd No w w':=by
 have HH:=qq h;have HF:=qq fun (o:Obj)=>((Upd.refl No w).alloc o).fr0 (N:=N);have HT:=qq fun (w':World) (hf:Fr N w w')=>(show Kg N w' p e real from h.fr hf);clear h hN;go_enter Tryz.func202,Tryz.ntmps202;go_wp2_with fail
 obtain ⟨tp,ip,ty,ds,q1,q2,q3,_⟩:=HT.out _ (HF.out _);refine (ent_term q1 q2).mono ?_;rintro r w' ⟨rfl,rfl⟩;go_wp2_with fail
 refine (ent_index q1 q3).mono ?_;rintro r w' ⟨rfl,rfl⟩;go_wp2;refine bodyPost_ret (v:=.agg #[.int .u64 e.term,.int .u64 e.index]) (by simp [results,Tryz.results202,go_sem]) rfl ⟨rfl,?_⟩;exact (Upd.refl No w).alloc _
theorem conflict_drop (g:LgL) (es:List Ent) {k:Nat} (hk:k<es.length):g.conflict (es.drop k)=if g.matches (es.getD k default).term (es.getD k default).index=true then g.conflict (es.drop (k+1)) else (es.getD k default).index:=by
 rw [List.drop_eq_getElem_cons hk,List.getD_eq_getElem?_getD,List.getElem?_eq_getElem hk];rfl
def ConflictRel (N:Nat) (J:LId) (g:LgL) (es:List Ent) (w:World) (i:Value) (wr:World):Prop:=
 ∃k:Nat,k≤es.length∧i=.int .i64 (k:Nat)∧g.conflict es=g.conflict (es.drop k)∧Jf N wr J g∧Upd (fun k=>k=J.I.ms) w wr
theorem Jf.ms_ty (h:Jf N w J g):Ty w J.I.ms 134:=by
 obtain ⟨_,_,_,_,_,_,_,hb,_⟩:=h.st.blk;exact hb.ty
theorem Jf.fr_ms {w':World} (h:Jf N w J g) (hu:Upd (fun k=>k=J.I.ms) w w'):Fr N w w':=hu.fr (by
 rintro k rfl;obtain ⟨_,_,_,_,_,_,_,hb,_⟩:=h.st.blk
 exact hb.mutb h.st.N rfl)
theorem PArr.ms {w':World} {d:Nat} {s:SlV} {es:List Ent} (hp:PArr N w d s es) (h:Jf N w J g) (hu:Upd (fun k=>k=J.I.ms) w w'):PArr N w' d s es:=
 hp.upd_ hu (h.fr_ms hu) (by rintro b rfl ht;exact h.ms_ty.ne_ ht (by decide) rfl)
theorem lgConflict {s:SlV} {es:List Ent} (h:Jf N w J g) (ho:g.Ok) (hp:PArr N w 0 s es) (hok:AllOk' es) (hlen:es.length≤100000):
  Calls Tryz.prog 143 #[.pointer (some ⟨J.l,0,none⟩),.slice s.A s.n s.c] w fun e w'=>e=.returned (.int .u64 (g.conflict es))∧Jf N w' J g∧Upd (fun k=>k=J.I.ms) w w':=by
 have HH:=qq h;have HP:=qq hp;have HK:=qq hok;have HM:=qq fun (w:World) (h:Jf N w J g) (t i:Int) (h0:0≤i) (h1:i<4611686018427387904)=>lgMatch h ho (t:=t) h0 (by omega);have HL:=qq hp.len;have HC:=qq hp.cap;clear h ho hp hok;go_enter Tryz.func143,Tryz.ntmps143;go_wp2_with fail
 go_loopw [9] (ConflictRel N J g es w) (fun i _=>s.n - (intOf i).toNat)
 case atStart=>exact ⟨0,Nat.zero_le _,rfl,rfl,HH.out,Upd.refl _ _⟩
 case round=>
  obtain ⟨k,k1,rfl,hcf,hR,hU⟩:=hrel;have HCF:=qq hcf;have hms:=qq hR.ms_ty;clear hcf;by_cases hlt:k<s.n
  ·obtain ⟨b,o,p,hA,hc,hpe⟩:=(HP.out.ms HH.out hU).at_ hlt;have hd:=qq (conflict_drop g es (k:=k) (by have:=HL.out;omega));have hb:=HK.out k (by have:=HL.out;omega);generalize es.getD k default=e1 at*;obtain ⟨hb1,hb2⟩:=hb;rw [hA];have hN:N≤wr.heap.size:=Nat.le_of_lt hR.lt;rcases hm:g.matches e1.term e1.index with _|_
   ·rw [hm] at hd;have hE:=qq (HCF.out.trans hd.out);clear hd;go_wp2_with fail
    refine (entryID hpe hN).mono ?_;rintro r w1 ⟨rfl,hu1⟩;have hne:w1.heap.size≠J.I.ms:=by have:=hms.out.lt;have:=hu1.size;omega
    have HMM:=qq (HM.out (w1.alloc (Obj.cells #[.int .u64 e1.term,.int .u64 e1.index] 146)) (hR.no (hu1.alloc _)) e1.term e1.index hb1 hb2);rw [hm] at HMM;go_wp2_with fail
    refine HMM.out.mono ?_;rintro r w2 ⟨rfl,h2,hu2⟩;have c1:w2.cell? ⟨w1.heap.size,1,none⟩=some (.int .u64 e1.index):=hu2.cell (by simp) hne;go_wp2;go_ret;exact ⟨by rw [hE.out];rfl,h2,(hU.no (hu1.alloc _)).Ke hu2⟩
   ·rw [hm] at hd;have hE:=qq (HCF.out.trans hd.out);clear hd;go_wp2_with fail
    refine (entryID hpe hN).mono ?_;rintro r w1 ⟨rfl,hu1⟩;have HMM:=qq (HM.out (w1.alloc (Obj.cells #[.int .u64 e1.term,.int .u64 e1.index] 146)) (hR.no (hu1.alloc _)) e1.term e1.index hb1 hb2);rw [hm] at HMM;go_wp2_with fail
    refine HMM.out.mono ?_;rintro r w2 ⟨rfl,h2,hu2⟩;have hk9:k≤100000:=by have:=HL.out;omega
    go_wp2;go_roundw
    case measure=>simp [intOf];omega
    case rel=>exact ⟨k+1,by have:=HL.out;omega,by go_num,by rw [hE.out];rfl,h2,(hU.no (hu1.alloc _)).Ke hu2⟩
  ·have hkn:g.conflict (es.drop k)=0:=by rw [List.drop_eq_nil_of_le (by have:=HL.out;omega)];rfl
   have HKN:=qq (HCF.out.trans hkn);clear hkn;have hge:(s.n:Int)≤(k:Int):=by omega
   go_wp2;go_ret;exact ⟨by rw [HKN.out];rfl,hR,hU⟩
def ByTermRel (N:Nat) (J:LId) (g:LgL) (t:Int) (res:Int×Int) (w:World) (i:Value) (wr:World):Prop:=
 ∃k:Nat,k<4611686018427387905∧i=.int .u64 (k:Nat)∧g.byTerm t k=res∧Jf N wr J g∧Upd (fun k=>k=J.I.ms) w wr
theorem lgByTerm {i:Nat} {t:Int} (h:Jf N w J g) (ho:g.Ok) (hi:i<4611686018427387905):
  Calls Tryz.prog 144 #[.pointer (some ⟨J.l,0,none⟩),.int .u64 (i:Int),.int .u64 t] w fun e w'=>e=.returned (.tuple #[.int .u64 (g.byTerm t i).1,.int .u64 (g.byTerm t i).2])∧Jf N w' J g∧Upd (fun k=>k=J.I.ms) w w':=by
 have HH:=qq h;have HT:=qq fun (w:World) (h:Jf N w J g) (i:Int) (h0:0≤i) (h1:i<4611686018427387905)=>lgTerm h ho h0 h1;generalize hr:g.byTerm t i=res at*;have HRR:=qq hr;clear h ho hr;go_enter Tryz.func144,Tryz.ntmps144;go_wp2_with fail
 go_loopw [1] (ByTermRel N J g t res w) (fun i _=>(intOf i).toNat)
 case atStart=>exact ⟨i,hi,rfl,HRR.out,HH.out,Upd.refl _ _⟩
 case round=>
  obtain ⟨k,k1,rfl,hcf,hR,hU⟩:=hrel;have HCF:=qq hcf;clear hcf;rcases k with _|k
  ·have:res=(0,0):=HCF.out.symm
   subst this;go_wp2;go_ret2;exact ⟨rfl,hR,hU⟩
  ·have hTT:=qq (HT.out _ hR ((k+1:Nat):Int) (by omega) (by omega));have hE:=qq (show g.byTerm t (k+1)=if (g.term ((k+1:Nat):Int)).2≠0 then (((k+1:Nat):Int),0) else if (g.term ((k+1:Nat):Int)).1≤t then (((k+1:Nat):Int),(g.term ((k+1:Nat):Int)).1) else g.byTerm t k from rfl);have hc:=g.err_is ((k+1:Nat):Int);have hpos:(0:Int)<((k+1:Nat):Int):=by omega
   generalize g.term ((k+1:Nat):Int)=te at*;obtain ⟨T,E⟩:=te;simp only at hc;rcases hc with rfl|rfl|rfl
   ·rw [show errV ((T:Int),(0:Int)).2=.nilIface from rfl] at hTT;by_cases hle:T≤t
    ·have hF:=qq (show res=(((k+1:Nat):Int),T) by rw [←HCF.out,hE.out,if_neg (by simp),if_pos hle]);clear hE;go_wp2_with fail
     refine hTT.out.mono ?_;rintro r w2 ⟨rfl,h2,hu2⟩;go_wp2;go_ret2;exact ⟨by rw [hF.out];simp,h2,hU.Ke hu2⟩
    ·have hF:=qq (show res=g.byTerm t k by rw [←HCF.out,hE.out,if_neg (by simp),if_neg hle]);clear hE;go_wp2_with fail
     refine hTT.out.mono ?_;rintro r w2 ⟨rfl,h2,hu2⟩;go_wp2;go_roundw
     case measure=>simp [intOf]
     case rel=>exact ⟨k,by omega,by go_num,hF.out.symm,h2,hU.Ke hu2⟩
   ·rw [show errV ((T:Int),(1:Int)).2=.iface 176 (.string errCompS) from rfl] at hTT;have hF:=qq (show res=(((k+1:Nat):Int),0) by rw [←HCF.out,hE.out,if_pos (by simp)]);clear hE;go_wp2_with fail
    refine hTT.out.mono ?_;rintro r w2 ⟨rfl,h2,hu2⟩;go_wp2;go_ret2;exact ⟨by rw [hF.out];simp,h2,hU.Ke hu2⟩
   ·rw [show errV ((T:Int),(3:Int)).2=.iface 176 (.string errUnavS) from rfl] at hTT;have hF:=qq (show res=(((k+1:Nat):Int),0) by rw [←HCF.out,hE.out,if_pos (by simp)]);clear hE;go_wp2_with fail
    refine hTT.out.mono ?_;rintro r w2 ⟨rfl,h2,hu2⟩;go_wp2;go_ret2;exact ⟨by rw [hF.out];simp,h2,hU.Ke hu2⟩
end
section
variable {N:Nat} {w:World} {J:LId} {g:LgL}
theorem lgCheck {lo hi:Int} (h:Jf N w J g) (ho:g.Ok) (h0:0≤lo) (h1:lo≤hi) (h2:hi≤g.last+1) (h3:g.first≤lo):
  Calls Tryz.prog 204 #[.pointer (some ⟨J.l,0,none⟩),.int .u64 lo,.int .u64 hi] w fun e w'=>e=.returned .nilIface∧Jf N w' J g∧Upd (fun k=>k=J.I.ms) w w':=by
 have HH:=qq h;have HF:=qq fun (w:World) (h:Jf N w J g)=>lgFirst h ho;have HL:=qq fun (w:World) (h:Jf N w J g)=>lgLast h ho;have hf:=ho.first_bd;have hl:=ho.last_lt;generalize g.first=F at*;generalize g.last=L at*;clear h ho;go_enter Tryz.func204,Tryz.ntmps204;go_wp2_with fail
 refine (HF.out _ HH.out).mono ?_;rintro r w1 ⟨rfl,h2',hu2⟩;go_wp2_with fail
 refine (HL.out _ h2').mono ?_;rintro r w2 ⟨rfl,h3',hu3⟩;go_wp2;go_ret;exact ⟨rfl,h3',hu2.Ke hu3⟩
theorem lgCheck_low {lo hi:Int} (h:Jf N w J g) (ho:g.Ok) (h0:0≤lo) (h1:lo≤hi) (h3:lo<g.first):
  Calls Tryz.prog 204 #[.pointer (some ⟨J.l,0,none⟩),.int .u64 lo,.int .u64 hi] w fun e w'=>e=.returned (.iface 176 (.string errCompS))∧Jf N w' J g∧Upd (fun k=>k=J.I.ms) w w':=by
 have HH:=qq h;have HF:=qq fun (w:World) (h:Jf N w J g)=>lgFirst h ho;generalize g.first=F at*;clear h ho;go_enter Tryz.func204,Tryz.ntmps204;go_wp2_with fail
 refine (HF.out _ HH.out).mono ?_;rintro r w1 ⟨rfl,h2',hu2⟩;go_wp2;go_ret;exact ⟨rfl,h2',hu2⟩
def SizeRel (es:List Ent) (w:World) (x i:Value) (wr:World):Prop:=
 ∃k:Nat,k≤es.length∧i=.int .i64 (k:Nat)∧x=.int .u64 (sumS es k)∧∃n,w.drewN n=wr
theorem entsSize {s:SlV} {es:List Ent} (h:PArr N w 0 s es) (hok:AllOk es) (hlen:es.length≤100000):
  Calls Tryz.prog 206 #[.slice s.A s.n s.c] w fun e w'=>e=.returned (.int .u64 (sumS es es.length))∧∃n,w.drewN n=w':=by
 have H:=qq h;have HK:=qq hok;have HL:=qq h.len;have HC:=qq h.cap;clear h hok;go_enter Tryz.func206,Tryz.ntmps206;go_wp2_with fail
 go_loopw [3,8] (SizeRel es w) (fun _ i _=>s.n - (intOf i).toNat)
 case atStart=>exact ⟨0,Nat.zero_le _,rfl,by rw [sumS_zero],0,rfl⟩
 case round=>
  obtain ⟨k,k2,rfl,rfl,n,rfl⟩:=hrel;have hb:=sumS_bd HK.out k k2;by_cases hlt:k<s.n
  ·obtain ⟨b',o',p',hA2,hc2,hp2⟩:=H.out.at_ hlt;rw [hA2];have hok1:=HK.out k (by have:=HL.out;omega);have HSU:=qq (sumS_succ es k (by have:=HL.out;omega));have hb1:=esize_bd hok1;generalize es.getD k default=e1 at*;have hsn:s.n≤100000:=by have:=HL.out;omega
   go_wp2_with fail
   refine (ent_size ((hp2.weak fun _=>Nat.zero_le _).fr ((Upd.refl No w).drewN _).fr0) hok1).mono ?_;rintro r w' ⟨rfl,m2,rfl⟩;go_wp2;go_roundw
   case measure=>simp [intOf];omega
   case rel=>exact ⟨k+1,by have:=HL.out;omega,by go_num,by rw [HSU.out],_,rfl⟩
  ·have hkn:k=s.n:=by have:=HL.out;omega
   subst hkn;go_wp2;go_ret;exact ⟨by rw [HL.out];rfl,_,rfl⟩
theorem list_of (n:Nat) (P:Nat→Nat→Prop) (h:∀j,j<n→∃p,P j p):∃ps:List Nat,ps.length=n∧∀j,j<n→P j (ps.getD j 0):=by
 induction n with
 |zero=>exact ⟨[],rfl,fun j hj=>absurd hj (Nat.not_lt_zero _)⟩
 |succ n ih=>
  obtain ⟨ps,hl,hp⟩:=ih fun j hj=>h j (by omega);obtain ⟨p,hp'⟩:=h n (Nat.lt_succ_self n);refine ⟨ps++[p],by simp [hl],fun j hj=>?_⟩;rcases Nat.lt_or_ge j n with hlt|hge
  ·rw [getD_snoc_lt (by omega)];exact hp j hlt
  ·obtain rfl:j=n:=by omega
   rw [getD_snoc_eq hl.symm];exact hp'
theorem ptrRow_one (ps:List Nat):∀u∈ptrRow ps,u.oneCell'=true:=by
 intro u hu;simp only [ptrRow,List.mem_map] at hu;obtain ⟨x,_,rfl⟩:=hu;rfl
theorem PArr.ptrs {d:Nat} {s:SlV} {es:List Ent} (h:PArr N w d s es):∃ps:List Nat,ps.length=s.n∧(∀j,j<s.n→Kg N w (ps.getD j 0) (es.getD j default) (d≤j))∧
  (0<s.n→∃ad,s.A=some ad∧∀j u,(ptrRow ps)[j]? =some u→w.cell? (ad.add j)=some u):=by
 rcases Nat.eq_zero_or_pos s.n with h0|h0
 ·exact ⟨[],by simp [h0],fun j hj=>by omega,fun h=>by omega⟩
 ·obtain ⟨b,o,cs,hA,hB,ho,hN,hj⟩:=h.arr (by have:=h.cap;omega);obtain ⟨ps,hl,hp⟩:=list_of s.n (fun j p=>cs[o+j]? =some (pp p)∧Kg N w p (es.getD j default) (d≤j)) hj;refine ⟨ps,hl,fun j hj=>(hp j hj).2,fun _=>⟨_,hA,fun j u hu=>?_⟩⟩;have hj':j<ps.length:=by
   rcases Nat.lt_or_ge j ps.length with h'|h'
   ·exact h'
   ·rw [List.getElem?_eq_none (by rw [Jv];exact h')] at hu;cases hu
  rw [ptrRow_at ps j hj'] at hu;rw [Addr.add_lit,hB.cell,(hp j (by omega)).1];exact hu
theorem parr_of {b d:Nat} {ps:List Nat} {es:List Ent} (hB:Blk w b 122 (ptrRow ps).toArray) (hN:N≤b) (hl:es.length=ps.length) (he:∀j,j<ps.length→Kg N w (ps.getD j 0) (es.getD j default) (d≤j)):
  PArr N w d ⟨some ⟨b,0,none⟩,ps.length,ps.length⟩ es:=
 ⟨hl,Nat.le_refl _,fun _=>⟨b,0,_,rfl,hB,by simp [Jv],hN,fun j hj=>⟨ps.getD j 0,by simpa using ptrRow_at ps j hj,he j hj⟩⟩⟩
theorem getD_app_lt {α:Type} {l r:List α} {d:α} {j:Nat} (h:j<l.length):(l++r).getD j d=l.getD j d:=by
 simp [List.getD_eq_getElem?_getD,List.getElem?_append,h]
theorem getD_app_ge {α:Type} {l r:List α} {d:α} {j:Nat} (h:l.length≤j):(l++r).getD j d=r.getD (j - l.length) d:=by
 simp [List.getD_eq_getElem?_getD,List.getElem?_append,Nat.not_lt.2 h]
theorem splice2 {α:Type} (Z X Y:List α) (k:Nat) (hk:X.length=k) (hZ:Z.length=k+Y.length):splice (splice Z 0 X) k Y=X++Y:=by
 subst hk;have e1:splice Z 0 X=X++Z.drop X.length:=by simp [splice]
 rw [e1];unfold splice;rw [List.take_append_of_le_length (Nat.le_refl _),List.take_of_length_le (Nat.le_refl _),List.drop_eq_nil_of_le (by simp;omega),List.append_nil]
theorem extend_ {s t:SlV} {es fs:List Ent} (h:PArr N w 0 s es) (k:PArr N w 0 t fs) (hs:s.c=s.n) (ht:1≤t.n) (hls:es.length≤50000) (hlt:fs.length≤50000) (hN:N≤w.heap.size):
  Calls Tryz.prog 207 #[.slice s.A s.n s.c,.slice t.A t.n t.c] w fun e w'=>∃r:SlV,e=.returned (.slice r.A r.n r.c)∧PArr N w' 0 r (es++fs)∧Upd No w w':=by
 have h1:=h.len;have k1:=k.len;obtain ⟨ps,hpl,hpe,hps⟩:=h.ptrs;obtain ⟨qs,hql,hqe,hqs⟩:=k.ptrs;have HFIN:=qq fun (w':World) (hb:w'.heap[w.heap.size]? =some (.cells (ptrRow ps++ptrRow qs).toArray 122 (0,0))) (hu:Upd No w w')=>
  show PArr N w' 0 ⟨some ⟨w.heap.size,0,none⟩,(ps++qs).length,(ps++qs).length⟩ (es++fs) from
   parr_of (by rw [show ptrRow (ps++qs)=ptrRow ps++ptrRow qs by simp [ptrRow]];exact hb) hN (by simp;omega) (fun j hj=>by
    have hf:=hu.fr0 (N:=N);rcases Nat.lt_or_ge j s.n with hlt|hge
    ·rw [getD_app_lt (by omega),getD_app_lt (by omega)];exact ((hpe j hlt).weak fun _=>Nat.zero_le _).fr hf
    ·rw [getD_app_ge (by omega),getD_app_ge (by omega),h1,hpl]
     exact ((hqe (j - s.n) (by simp at hj;omega)).weak fun _=>Nat.zero_le _).fr hf)
 obtain ⟨m,hm⟩:∃m,m=s.n+t.n:=⟨_,rfl⟩;have hmk:=run_make_row' (P:=Tryz.prog) 128 122 (.pointer none) 8 Tryz.underlying128 inf122 rfl .i64 .i64 m (by omega) (by omega) w;rw [show ((m:Nat):Int)=(s.n:Int)+(t.n:Int) by omega] at hmk;obtain ⟨X,hX⟩:∃X,X=ptrRow ps:=⟨_,rfl⟩;obtain ⟨Y,hY⟩:∃Y,Y=ptrRow qs:=⟨_,rfl⟩;have HX1:=qq (show ∀u∈X,u.oneCell'=true by rw [hX];exact ptrRow_one ps);have HY1:=qq (show ∀u∈Y,u.oneCell'=true by rw [hY];exact ptrRow_one qs);have HXL:=qq (show X.length=s.n by rw [hX,Jv,hpl]);have HYL:=qq (show Y.length=t.n by rw [hY,Jv,hql]);have HRL:=qq (show (ps++qs).length=m by simp;omega);rw [←hX] at hps HFIN;rw [←hY] at hqs HFIN;have HPS:=qq hps;have HQS:=qq hqs;have HM:=qq hm;obtain ⟨sA,sn,sc⟩:=s;obtain ⟨tA,tn,tc⟩:=t;simp only at*;obtain rfl:sc=sn:=hs;have hsb:sc≤50000:=by omega
 have htb:tn≤50000:=by omega
 have hkm:sc≤m:=by omega
 have hmm:m≤100000:=by omega
 have hmsc:¬m=sc:=by omega
 have HN1:=qq (show Y.length=Nat.min tn (m - sc) by rw [HYL.out,show m - sc=tn by omega];exact (Nat.min_self tn).symm);have HN0:=qq (show X.length=Nat.min sc m by rw [HXL.out];exact (Nat.min_eq_left hkm).symm);clear h k hps hqs hX hY hpe hqe hpl hql h1 k1 hls hlt hm;go_enter Tryz.func207,Tryz.ntmps207;go_wp2_with (with_reducible refine wpList_copy_splice rfl (.tmp 22) (.tmp 23) 128 128 rfl 122 Tryz.underlying128 (by kernel_rfl) (some ⟨w.heap.size,0,none⟩) sA m m sc sc rfl rfl w.heap.size 0 (madeCells #[.pointer none] m).toList 122 (by exact heap_alloc_new w _) X HN0.out ?hp ?hf HX1.out w.heap.size w ((Below.refl _ w).alloc (Nat.le_refl _) _) (Nat.le_refl _) ?hk)
 case hf=>have:=HM.out;simp [HXL.out,size_madeCells];omega
 case hp=>
  intro hp;rw [HXL.out] at hp;obtain ⟨ad',he,hc⟩:=HPS.out hp;exact ⟨ad',he,fun j v hv=>cell_alloc' (hc j v hv)⟩
 case hk=>
  intro w2 hb hbel;go_wp2_with (with_reducible refine wpList_copy_splice rfl (.tmp 28) (.tmp 29) 128 128 rfl 122 Tryz.underlying128 (by kernel_rfl) (some ⟨w.heap.size,sc,none⟩) tA (m - sc) (m - sc) tn tc rfl rfl w.heap.size sc (splice (madeCells #[.pointer none] m).toList 0 X) 122 hb.out Y HN1.out ?hp ?hf HY1.out w.heap.size w hbel (Nat.le_refl _) ?hk)
  case hf=>rw [length_splice _ _ _ (by simp [HXL.out,size_madeCells];exact hkm)];have:=HM.out;simp [HYL.out,size_madeCells];omega
  case hp=>
   intro hp;rw [HYL.out] at hp;obtain ⟨ad',he,hc⟩:=HQS.out hp;exact ⟨ad',he,fun j v hv=>(hbel.cell (World.block_lt_of_cell? w _ (hc j v hv))).trans (hc j v hv)⟩
  case hk=>
   intro w3 hb3 hbel3;go_wp2;go_ret;have hb':=hb3.out;rw [splice2 _ _ _ _ HXL.out (by have:=HM.out;simp [HYL.out,size_madeCells];omega)] at hb';refine ⟨⟨some ⟨w.heap.size,0,none⟩,m,m⟩,rfl,?_,Upd.ofBelow hbel3⟩;have:=HFIN.out w3 hb' (Upd.ofBelow hbel3);rw [HRL.out] at this;exact this
end
end Go.Proofs.YtmagnkjodjmojaaGreat
