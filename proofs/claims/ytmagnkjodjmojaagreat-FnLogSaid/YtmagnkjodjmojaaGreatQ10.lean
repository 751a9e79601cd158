/- A part of the proof of FnLog: laws and walks, with their conditions written at each. -/
import Derived.Deep.MidRow
import Derived.Test.YtmagnkjodjmojaaGreatQ09
set_option maxRecDepth 20000
set_option maxHeartbeats 4000000
set_option linter.all false
namespace Go.Proofs.YtmagnkjodjmojaaGreat
open Go.RowKit
section
variable {N:Nat} {w w':World} {J:LId} {g:LgL}
theorem Jf.appEs {S:Nat→Prop} (h:Jf N w J g) (hu:Upd S w w') (hS:∀k,S k→J.ue.blk k) (ue':SlV) (es':List Ent) (hP:PArr N w' 0 ue' es')
  (hsep:∀b o b' o',J.I.es.A=some ⟨b,o,none⟩→ue'.A=some ⟨b',o',none⟩→0<ue'.c→b≠b'):
  w'.cell? ⟨J.l,2,none⟩=some (.slice J.ue.A J.ue.n J.ue.c)∧w'.frozen? ⟨J.l,2,none⟩=false∧
  Jf N (w'.setCell ⟨J.l,2,none⟩ (.slice ue'.A ue'.n ue'.c)) {J with ue:=ue'} {g with u:={g.u with es:=es'}}∧Upd (LU N w) w (w'.setCell ⟨J.l,2,none⟩ (.slice ue'.A ue'.n ue'.c)):=by
 have hk:∀k,S k→Ty w k 122∧N≤k:=by
  intro k hk;obtain ⟨h1,h2⟩:=hS k hk;obtain ⟨b,o,cs,hA,hB,_,hN,_⟩:=h.ue.arr h2;rw [hA] at h1;cases h1;exact ⟨hB.ty,hN⟩
 have hf:Fr N w w':=hu.fr fun k hs=>⟨(hk k hs).2,.inr ⟨122,(hk k hs).1,rfl⟩⟩;have hne:∀{k:Nat} {T:TypeId} {cs:Array Value},Blk w k T cs→T≠122→¬S k:=fun hb ht hs=>hb.ty.ne_ (hk _ hs).1 ht rfl;obtain ⟨hp',k1,k2,k3,k4,k5,k6,hb,hh⟩:=id h.st.blk;obtain ⟨_,_,_,_,hb1,hm1,_⟩:=id h.st.sn;have hB:Blk w' J.l 214 (logCells J.I.ms J.up J.ue g):=h.blk.upd hu (hne h.blk (by decide));have hes:∀b o,J.I.es.A=some ⟨b,o,none⟩→¬S b∧b≠J.l:=by
  intro b o hA;obtain ⟨g',o'',cs,hA'',hB',_⟩:=h.st.es.arr (by have:=h.st.es.cap;have:=h.st.es.len;simp at this;omega);rw [hA] at hA'';cases hA'';refine ⟨fun hs=>?_,hB'.ne_ h.blk (by decide)⟩;obtain ⟨h1,h2⟩:=hS _ hs;obtain ⟨b2,o2,cs2,hA2,hB2,_⟩:=h.ue.arr h2;rw [hA2] at h1;have:b2=b:=by simpa using h1
  exact h.sep b o b2 o2 hA hA2 h2 this.symm
 have hst:Je N w' J.I g.s:=h.st.upd hu hf (hne hb (by decide)) (hne hb1 (by decide)) (hne hm1 (by decide)) (fun b o hA=>(hes b o hA).1);have hu2:Upd (fun k=>k=J.l) w' (w'.setCell ⟨J.l,2,none⟩ ue'.v):=(Upd.refl (fun k=>k=J.l) w').setIn rfl 2 _;have hf2:Fr N w' (w'.setCell ⟨J.l,2,none⟩ ue'.v):=hu2.fr (by rintro k rfl;exact hB.mutb h.N rfl);obtain ⟨_,_,_,_,_,_,_,hb',_⟩:=id hst.blk;obtain ⟨_,_,_,_,hb1',hm1',_⟩:=id hst.sn;refine ⟨hB.cell 2,hB.frozen 2,⟨hB.set_ 2 _,?_,hP.upd_ hu2 hf2 (by rintro b rfl ht;exact hB.ty.ne_ ht (by decide) rfl),?_,h.N,hsep⟩,?_⟩
 ·exact hst.upd hu2 hf2 (fun hk=>h.msl hk.symm) (fun hk=>hb1'.ne_ hB (by decide) hk) (fun hk=>hm1'.ne_ hB (by decide) hk) (fun b o hA hk=>(hes b o hA).2 hk)
 ·rcases h.us with h1|⟨sn,h1,h2,h3,h4⟩
  ·exact .inl h1
  ·obtain ⟨_,_,_,_,hb2,hm2,_⟩:=id h3;have h3':=h3.upd hu hf (hne hb2 (by decide)) (hne hm2 (by decide));obtain ⟨_,_,_,_,hb3,hm3,_⟩:=id h3';exact .inr ⟨sn,h1,h2,h3'.upd hu2 hf2 (fun hk=>hb3.ne_ hB (by decide) hk) (fun hk=>hm3.ne_ hB (by decide) hk),h4⟩
 ·have g1:Upd (LU N w) w w':=hu.mono fun k hs=>⟨(hk k hs).2,122,(hk k hs).1,rfl⟩;exact LU.trans g1 (hu2.mono (by rintro k rfl;exact ⟨h.N,_,hB.ty,rfl⟩))
theorem uAppend_1 {t:SlV} {l:List Ent} (h:Jf N w J g) (ho:g.Ok) (hp:PArr N w 0 t l) (hl:l.length≠0) (hlen:l.length≤1000) (hE:idx0 l=g.u.end_):
  Calls Tryz.prog 201 #[.pointer (some ⟨J.l,1,none⟩),.slice t.A t.n t.c] w fun e w'=>e=.returned (.tuple #[])∧(∃J',J'.as J∧Jf N w' J' {g with u:={g.u with es:=g.u.es++l}})∧Upd (LU N w) w w':=by
 have c2:=h.c2;have c3:=h.c3;have hul:=h.ue.len;have htl:=hp.len;obtain ⟨b,o,p,hA,hc,⟨_,ip,_,_,q1,_,q3,_⟩⟩:=hp.at_ (k:=0) (by omega);have hix:(l.getD 0 default).index=g.u.off+(J.ue.n:Int):=by have:=hE;unfold idx0 TlL.end_ at this;rw [this];omega
 rw [hix] at q3;have o1:=ho.u.o1;have o2:=ho.u.o2;have hn0:(0:Int)<(t.n:Int):=by omega
 have hn1:t.n≤1000:=by omega
 have hun:J.ue.n≤20000:=by have:=ho.u.len;omega
 have HH:=qq h;have HP:=qq hp;have HTA:=qq hA;rw [Nat.add_zero] at hc;have HW:=qq fun (m:Nat)=>h.drewN m;have HPW:=qq fun (m:Nat)=>hp.upd ((Upd.refl No w).drewN m) ((Upd.refl No w).drewN m).fr0 (fun _ _ _ h=>h);have HN:=qq fun (m:Nat)=>(show N≤(w.drewN m).heap.size from Nat.le_of_lt h.lt);have HSEP:=qq h.sep;have HST:=qq fun b o (hA:J.I.es.A=some ⟨b,o,none⟩)=>h.st_lt hA;have HB:=qq (show J.ue.n+t.n≤1000000 by omega);clear h ho hp hE hix hul htl hl hlen;go_enter Tryz.func201,Tryz.ntmps201;rw [hA];clear hA;go_wp2_with fail
 refine (ent_index q1 q3).mono ?_;rintro r w' ⟨rfl,rfl⟩;go_wp2_with fail
 go_quiet (fail)
 rw [←HTA.out];go_wp2_with (with_reducible refine app_parr (s:=J.ue) (t:=t) rfl (.tmp 50) (.tmp 51) rfl rfl rfl (HW.out _).ue (HPW.out _) HB.out (HN.out _) ?_)
 intro s' w2 hP2 hU2 hA2 hn2;clear hn2
 have X:=(HW.out _).appEs hU2 (fun _ hk=>hk) s' _ hP2 (fun b o b' o' hA hA' hc'=>by
  rcases hA2 b' o' hc' hA' with ⟨h1,h2⟩|h1
  ·exact HSEP.out b o b' o' hA h1 h2
  ·have:=HST.out b o hA
   have h1':w.heap.size≤b':=h1
   omega)
 obtain ⟨z2,f2,HR,HU⟩:=X;have HR:=qq HR;have HU:=qq HU;go_wp2;go_end0;exact ⟨rfl,⟨{J with ue:=s'},rfl,HR.out⟩,LU.trans ((Upd.refl (LU N w) w).drewN _) HU.out⟩
theorem Jf.repl {t:SlV} {l:List Ent} {x:Int} (h:Jf N w J g) (hp:PArr N w 0 t l) (hsep:∀b o b' o',J.I.es.A=some ⟨b,o,none⟩→t.A=some ⟨b',o',none⟩→b≠b'):
  Jf N (((w.setCell ⟨J.l,2,none⟩ (.slice t.A t.n t.c)).setCell ⟨J.l,3,none⟩ (.int .u64 x)).setCell ⟨J.l,5,none⟩ (.int .u64 x)) {J with ue:=t} {g with u:={g.u with es:=l,off:=x,till:=x}}∧
   Upd (LU N w) w (((w.setCell ⟨J.l,2,none⟩ (.slice t.A t.n t.c)).setCell ⟨J.l,3,none⟩ (.int .u64 x)).setCell ⟨J.l,5,none⟩ (.int .u64 x)):=by
 have H1:=h.putEs t l hp (fun b o b' o' hA hA' _=>hsep b o b' o' hA hA');have H2:=H1.1.put 3 (.int .u64 x) {g with u:={g.u with es:=l,off:=x}} rfl rfl rfl rfl rfl;have H3:=H2.1.put 5 (.int .u64 x) {g with u:={g.u with es:=l,off:=x,till:=x}} rfl rfl rfl rfl rfl;exact ⟨H3.1,LU.trans H1.2 (LU.trans H2.2 H3.2)⟩
theorem uAppend_2 {t:SlV} {l:List Ent} (h:Jf N w J g) (ho:g.Ok) (hp:PArr N w 0 t l) (hl:l.length≠0) (hlen:l.length≤1000) {x:Int} (hx:idx0 l=x) (hx0:0≤x) (hE:x≠g.u.end_) (hE2:x≤g.u.off)
  (hsep:∀b o b' o',J.I.es.A=some ⟨b,o,none⟩→t.A=some ⟨b',o',none⟩→b≠b'):
  Calls Tryz.prog 201 #[.pointer (some ⟨J.l,1,none⟩),.slice t.A t.n t.c] w fun e w'=>e=.returned (.tuple #[])∧(∃J',J'.as J∧Jf N w' J' {g with u:={g.u with es:=l,off:=x,till:=x}})∧Upd (LU N w) w w':=by
 have c2:=h.c2;have c3:=h.c3;have hul:=h.ue.len;have htl:=hp.len;obtain ⟨b,o,p,hA,hc,⟨_,ip,_,_,q1,_,q3,_⟩⟩:=hp.at_ (k:=0) (by omega);have hix:(l.getD 0 default).index=x:=hx;rw [hix] at q3;have o1:=ho.u.o1;have o2:=ho.u.o2;have hn0:(0:Int)<(t.n:Int):=by omega
 have hn1:t.n≤1000:=by omega
 have hun:J.ue.n≤20000:=by have:=ho.u.len;omega
 have hne:¬x=g.u.off+(J.ue.n:Int):=by unfold TlL.end_ at hE;omega
 have HTA:=qq hA;rw [Nat.add_zero] at hc;have H1:=qq fun (m:Nat)=>(h.drewN m).repl (x:=x) (hp.upd ((Upd.refl No w).drewN m) ((Upd.refl No w).drewN m).fr0 (fun _ _ _ h=>h)) hsep;have y2:=h.fz 2;have y3:=h.fz 3;have y5:=h.fz 5;have c5:=h.c5;clear h ho hp hE hix hul htl hl hlen hsep hx;go_enter Tryz.func201,Tryz.ntmps201;rw [hA];clear hA;go_wp2_with fail
 refine (ent_index q1 q3).mono ?_;rintro r w' ⟨rfl,rfl⟩;go_wp2_with fail
 go_quiet (fail)
 rw [←HTA.out];go_wp2;go_end0;refine ⟨rfl,⟨{J with ue:=t},rfl,?_⟩,LU.trans ((Upd.refl (LU N w) w).drewN nq) ?_⟩
 ·exact (H1.out nq).1
 ·exact (H1.out nq).2
theorem uAppend_3 {t:SlV} {l:List Ent} (h:Jf N w J g) (ho:g.Ok) (hp:PArr N w 0 t l) (hl:l.length≠0) (hlen:l.length≤1000) {x:Int} (hx:idx0 l=x) (hE:x<g.u.end_) (hE2:g.u.off<x):
  Calls Tryz.prog 201 #[.pointer (some ⟨J.l,1,none⟩),.slice t.A t.n t.c] w fun e w'=>e=.returned (.tuple #[])∧(∃J',J'.as J∧Jf N w' J' {g with u:={g.u with es:=g.u.es.take (x - g.u.off).toNat++l,till:=min g.u.till x}})∧Upd (LU N w) w w':=by
 obtain ⟨k,hk⟩:=Int.eq_ofNat_of_zero_le (show 0≤x - g.u.off by omega);obtain rfl:x=g.u.off+(k:Int):=by omega
 rw [show (g.u.off+(k:Int) - g.u.off).toNat=k by omega];have c2:=h.c2;have c3:=h.c3;have hul:=h.ue.len;have htl:=hp.len;have e2:=ho.u.e2;have hkn:k<J.ue.n:=by unfold TlL.end_ at hE;omega
 have HS:=qq fun (m:Nat)=>uSlice (lo:=g.u.off) (hi:=g.u.off+(k:Int)) (h.drewN m).blk (h.drewN m).ue ho.u (Int.le_refl _) (by omega) (by omega);have HCUT:=qq (show cutV J.ue (g.u.off - g.u.off).toNat (g.u.off+(k:Int) - g.u.off).toNat=cutV J.ue 0 k by rw [show g.u.off - g.u.off=0 by omega,show g.u.off+(k:Int) - g.u.off=(k:Int) by omega];rfl);obtain ⟨b,o,p,hA,hc,⟨_,ip,_,_,q1,_,q3,_⟩⟩:=hp.at_ (k:=0) (by omega);have hix:(l.getD 0 default).index=g.u.off+(k:Int):=hx;rw [hix] at q3;have o1:=ho.u.o1;have o2:=ho.u.o2;have hn0:(0:Int)<(t.n:Int):=by omega
 have hn1:t.n≤1000:=by omega
 have hun:J.ue.n≤20000:=by have:=ho.u.len;omega
 have hne:¬(k:Int)=(J.ue.n:Int):=by omega
 have hgt:¬g.u.off+(k:Int)≤g.u.off:=by omega
 have HTA:=qq hA;rw [Nat.add_zero] at hc;have HW:=qq fun (w':World) (hu:Upd No w w')=>h.no hu;have HPW:=qq fun (w':World) (hu:Upd No w w')=>hp.upd hu hu.fr0 (fun _ _ _ h=>h)
 have HPC:=qq fun (w':World) (hu:Upd No w w')=>(show PArr N w' 0 (cutV J.ue 0 k) (g.u.es.take k) by
  have:=((h.no hu).ue.cut (a:=0) (b:=k) (by omega) (by omega));simpa using this)
 have HN:=qq (Nat.le_of_lt h.lt);have HU0:=qq fun (m n:Nat)=>((Upd.refl No w).drewN m).drewN n;have HSEP:=qq h.sep;have HST:=qq fun b o (hA:J.I.es.A=some ⟨b,o,none⟩)=>h.st_lt hA
 have HCB:=qq (show ∀j,(cutV J.ue 0 k).blk j→J.ue.blk j by
  intro j ⟨h1,h2⟩;have hcap:=h.ue.cap;refine ⟨?_,by omega⟩;unfold cutV at h1;rw [←h1]
  cases J.ue.A<;>simp<;>split<;>simp [Addr.add])
 have hb1:(cutV J.ue 0 k).n=k:=by unfold cutV;split<;>simp_all
 have HB:=qq (show (cutV J.ue 0 k).n+t.n≤1000000 by omega);have hkk:k≤20000:=by omega
 clear h ho hp hE hix hul htl hl hlen hx hk e2 hkn hE2 hb1;go_enter Tryz.func201,Tryz.ntmps201;rw [hA];clear hA;go_wp2_with fail
 refine (ent_index q1 q3).mono ?_;rintro r w' ⟨rfl,rfl⟩;go_wp2_with fail
 go_quiet (fail)
 rw [←HTA.out];go_wp2_with fail
 refine (HS.out _).mono ?_;rintro r w3 ⟨rfl,m,hw3⟩;have HW3:=qq (show Upd No w w3 by rw [←hw3];exact HU0.out _ _);clear hw3;rw [HCUT.out];go_wp2_with (with_reducible refine app_parr (s:=cutV J.ue 0 k) (t:=t) rfl (.tmp 18) (.tmp 19) rfl rfl rfl (HPC.out _ HW3.out) (HPW.out _ HW3.out) HB.out (Nat.le_trans HN.out HW3.out.size) ?_)
 intro s' w2 hP2 hU2 hA2 hn2;clear hn2
 have X:=(HW.out _ HW3.out).appEs hU2 HCB.out s' _ hP2 (fun b o b' o' hA hA' hc'=>by
  rcases hA2 b' o' hc' hA' with ⟨h1,h2⟩|h1
  ·have h3:=(HCB.out b' ⟨by rw [h1];rfl,h2⟩);obtain ⟨h4,h5⟩:=h3;rcases hq:J.ue.A with _|⟨b2,o2,s2⟩
   ·rw [hq] at h4;cases h4
   ·rw [hq] at h4;simp at h4;subst h4;obtain ⟨b3,o3,cs3,hA3,_⟩:=(HW.out _ HW3.out).ue.arr h5;rw [hq] at hA3;cases hA3;exact HSEP.out b o _ _ hA hq h5
  ·have:=HST.out b o hA
   have h1':w3.heap.size≤b':=h1;have:=HW3.out.size
   omega)
 obtain ⟨z2,f2,HR,HU⟩:=X;have H5:=qq fun (x:Int)=>HR.put 5 (.int .u64 x) {g with u:={g.u with es:=g.u.es.take k++l,till:=x}} rfl rfl rfl rfl rfl;have y5:=HR.fz 5;have y5':=(HW.out _ HW3.out).fz 5;have c5:=HR.c5;have HR:=qq HR;have HU:=qq HU;have HUU:=qq fun (x:Int)=>LU.trans HU.out (H5.out x).2;go_wp2
 ·go_end0
  refine ⟨rfl,⟨{J with ue:=s'},rfl,?_⟩,LU.trans HW3.out.ofNo (HUU.out _)⟩;rw [show min g.u.till (g.u.off+(k:Int))=g.u.off+(k:Int) by omega];exact (H5.out _).1
 ·go_end0
  refine ⟨rfl,⟨{J with ue:=s'},rfl,?_⟩,LU.trans HW3.out.ofNo (HUU.out _)⟩;rw [show min g.u.till (g.u.off+(k:Int))=g.u.till by omega];exact (H5.out _).1
theorem TlL.repl_eq {u:TlL} {l:List Ent} (h1:u.es=[]) (h2:u.till=u.off):({u with es:=l,off:=u.off,till:=u.off}:TlL)= {u with es:=u.es++l}:=by
 cases u;simp at h1 h2;simp [h1,h2]
theorem uAppend {t:SlV} {l:List Ent} {u':TlL} (h:Jf N w J g) (ho:g.Ok) (hp:PArr N w 0 t l) (ha:g.u.append l=some u') (hlen:l.length≤1000) (hx0:0≤idx0 l)
  (hsep:∀b o b' o',J.I.es.A=some ⟨b,o,none⟩→t.A=some ⟨b',o',none⟩→b≠b'):
  Calls Tryz.prog 201 #[.pointer (some ⟨J.l,1,none⟩),.slice t.A t.n t.c] w fun e w'=>e=.returned (.tuple #[])∧(∃J',J'.as J∧Jf N w' J' {g with u:=u'})∧Upd (LU N w) w w':=by
 unfold TlL.append at ha;have h1:=ho.u.t1;have h2:=ho.u.t2;split at ha
 ·cases ha
 rename_i hn
 have hl:l.length≠0:=fun h=>hn (.inl h);split at ha
 ·cases ha
 rename_i hn2
 split at ha
 ·rename_i hn3
  cases ha;by_cases hE:idx0 l=g.u.end_
  ·have hes:g.u.es=[]:=by
    have:g.u.es.length=0:=by unfold TlL.end_ at hE;omega
    exact List.eq_nil_of_length_eq_zero this
   have:=uAppend_1 h ho hp hl hlen hE
   have e1:idx0 l=g.u.off:=by rw [hE];unfold TlL.end_;rw [hes];simp
   have e2:g.u.till=g.u.off:=by rw [←hE,e1] at h2;omega
   rw [e1];rw [TlL.repl_eq hes e2];exact this
  ·exact uAppend_2 h ho hp hl hlen rfl hx0 hE hn3 hsep
 ·rename_i hn3
  cases ha;by_cases hE:idx0 l=g.u.end_
  ·have:=uAppend_1 h ho hp hl hlen hE
   rw [hE];rw [show (g.u.end_ - g.u.off).toNat=g.u.es.length by unfold TlL.end_;omega,List.take_length,show min g.u.till g.u.end_=g.u.till by omega];exact this
  ·exact uAppend_3 h ho hp hl hlen rfl (by omega) (by omega)
theorem LgL.append_some {l:List Ent} {g':LgL} (ha:g.append l=some g') (hl:l.length≠0):∃u',g.u.append l=some u'∧g'= {g with u:=u'}∧rowB l=true∧g.com<idx0 l∧idx0 l≤g.last+1:=by
 unfold LgL.append at ha;rw [if_neg hl] at ha;split at ha
 ·cases ha
 rename_i hn
 obtain ⟨u',h1,h2⟩:=Option.map_eq_some_iff.1 ha;refine ⟨u',h1,h2.symm,by cases h:rowB l<;>simp_all,by omega,by omega⟩
theorem LgL.append_nil {l:List Ent} {g':LgL} (ha:g.append l=some g') (hl:l.length=0):g'=g:=by
 unfold LgL.append at ha;rw [if_pos hl] at ha;cases ha;rfl
theorem row_idx0 {l:List Ent} (h:rowB l=true) (hl:l.length≠0):idx0 l≠0∧idx0 l<4611686018427387904:=by
 unfold rowB at h;rw [decide_eq_true_eq] at h;have:=h 0 (by omega);exact ⟨this.1,this.2.1⟩
theorem lgAppend {t:SlV} {l:List Ent} {g':LgL} (h:Jf N w J g) (ho:g.Ok) (hp:PArr N w 0 t l) (ha:g.append l=some g') (ho':g'.Ok) (hlen:l.length≤1000) (hx0:l.length≠0→0≤idx0 l)
  (hsep:∀b o b' o',J.I.es.A=some ⟨b,o,none⟩→t.A=some ⟨b',o',none⟩→b≠b'):
  Calls Tryz.prog 140 #[.pointer (some ⟨J.l,0,none⟩),.slice t.A t.n t.c] w fun e w'=>e=.returned (.int .u64 g'.last)∧(∃J',J'.as J∧Jf N w' J' g')∧Upd (LU N w) w w':=by
 have htl:=hp.len;by_cases hl:l.length=0
 ·obtain rfl:=LgL.append_nil ha hl;have hn:t.n=0:=by omega
  have HL:=qq (lgLast h ho);have HH:=qq h;rw [hn];clear h ho hp ha ho' hlen hx0 hsep htl hl hn;go_enter Tryz.func140,Tryz.ntmps140;go_wp2_with fail
  refine HL.out.mono ?_;rintro r w1 ⟨rfl,hR,hU⟩;go_wp2;go_ret;exact ⟨rfl,⟨J,rfl,hR⟩,HH.out.lu_ms hU⟩
 ·obtain ⟨u',h1,h2,h3,h4,h5⟩:=LgL.append_some ha hl;obtain ⟨h6,h7⟩:=row_idx0 h3 hl;have hx:=hx0 hl;have HA:=qq (uAppend h ho hp h1 hlen hx hsep);rw [←h2] at HA;have HL:=qq fun (w:World) (J:LId) (h:Jf N w J g')=>lgLast h ho';have HLU:=qq fun (w w':World) (J:LId) (h:Jf N w J g') (hu:Upd (fun k=>k=J.I.ms) w w')=>h.lu_ms hu;have c6:=h.c6;obtain ⟨b,o,p,hA,hc,⟨_,ip,_,_,q1,_,q3,_⟩⟩:=hp.at_ (k:=0) (by omega);change OptInt w 23 .u64 ip (idx0 l) at q3;have hn0:(0:Int)<(t.n:Int):=by omega
  have hz:((t.n:Int)==0)=false:=beq_eq_false_iff_ne.2 (by omega);have hn1:t.n≤1000:=by omega
  have HTA:=qq hA;rw [Nat.add_zero] at hc;generalize idx0 l=x at*;have hxx:¬x - 1<g.com:=by omega
  have hx1:1≤x:=by omega
  have HFI:=qq fun (J':LId) (e:J'.l=J.l) (w':World) (R:Jf N w' J' g')=>(show Jf N w' J' g' from R);clear h ho hp ha ho' hlen hx0 hsep htl hl h1 h2 h3 h4 h5 h6;go_enter Tryz.func140,Tryz.ntmps140;rw [hA];clear hA;go_wp2_with fail
  refine (ent_index q1 q3).mono ?_;rintro r w' ⟨rfl,rfl⟩;go_wp2_with fail
  rw [←HTA.out];refine HA.out.mono ?_;rintro r w1 ⟨rfl,⟨J1,e1,R1⟩,U1⟩;have HU1:=qq U1;have HL1:=qq (HL.out _ _ R1);have e1':J1.l=J.l:=e1.l;rw [e1'] at HL1;clear e1';have E1:=qq e1;clear e1 U1;go_wp2_with fail
  refine HL1.out.mono ?_;rintro r w2 ⟨rfl,R2,U2⟩;go_wp2;go_ret;exact ⟨rfl,⟨J1,E1.out,R2⟩,LU.trans HU1.out (HLU.out _ _ _ R1 U2)⟩
end
section
variable {w:World} {a b c d:Value}
theorem z75 {Q:Value→World→Prop} (h:Calls Tryz.prog 140 #[a,b] w fun e w'=>∃v,e=.returned v∧Q v w'):
  Calls Tryz.prog 75 #[a,b] w fun e w'=>∃v,e=.returned v∧Q v w':=by
 go_enter Tryz.func75,Tryz.ntmps75;go_wp2_with fail
 refine h.mono ?_;rintro r w1 ⟨v,rfl,hq⟩;go_wp2;go_ret;exact ⟨v,rfl,hq⟩
theorem z79 {Q:Value→World→Prop} (h:Calls Tryz.prog 143 #[a,b] w fun e w'=>∃v,e=.returned v∧Q v w'):
  Calls Tryz.prog 79 #[a,b] w fun e w'=>∃v,e=.returned v∧Q v w':=by
 go_enter Tryz.func79,Tryz.ntmps79;go_wp2_with fail
 refine h.mono ?_;rintro r w1 ⟨v,rfl,hq⟩;go_wp2;go_ret;exact ⟨v,rfl,hq⟩
theorem z87 {Q:Value→World→Prop} (h:Calls Tryz.prog 154 #[a] w fun e w'=>∃v,e=.returned v∧Q v w'):
  Calls Tryz.prog 87 #[a] w fun e w'=>∃v,e=.returned v∧Q v w':=by
 go_enter Tryz.func87,Tryz.ntmps87;go_wp2_with fail
 refine h.mono ?_;rintro r w1 ⟨v,rfl,hq⟩;go_wp2;go_ret;exact ⟨v,rfl,hq⟩
theorem z88 {Q:Value→World→Prop} (h:Calls Tryz.prog 155 #[a] w fun e w'=>∃v,e=.returned v∧Q v w'):
  Calls Tryz.prog 88 #[a] w fun e w'=>∃v,e=.returned v∧Q v w':=by
 go_enter Tryz.func88,Tryz.ntmps88;go_wp2_with fail
 refine h.mono ?_;rintro r w1 ⟨v,rfl,hq⟩;go_wp2;go_ret;exact ⟨v,rfl,hq⟩
theorem z92 {Q:Value→World→Prop} (h:Calls Tryz.prog 160 #[a,b] w fun e w'=>∃v,e=.returned v∧Q v w'):
  Calls Tryz.prog 92 #[a,b] w fun e w'=>∃v,e=.returned v∧Q v w':=by
 go_enter Tryz.func92,Tryz.ntmps92;go_wp2_with fail
 refine h.mono ?_;rintro r w1 ⟨v,rfl,hq⟩;go_wp2;go_ret;exact ⟨v,rfl,hq⟩
theorem z93 {Q:Value→World→Prop} (h:Calls Tryz.prog 161 #[a,b] w fun e w'=>∃v,e=.returned v∧Q v w'):
  Calls Tryz.prog 93 #[a,b] w fun e w'=>∃v,e=.returned v∧Q v w':=by
 go_enter Tryz.func93,Tryz.ntmps93;go_wp2_with fail
 refine h.mono ?_;rintro r w1 ⟨v,rfl,hq⟩;go_wp2;go_ret;exact ⟨v,rfl,hq⟩
theorem z94 {Q:Value→World→Prop} (h:Calls Tryz.prog 162 #[a,b] w fun e w'=>∃v,e=.returned v∧Q v w'):
  Calls Tryz.prog 94 #[a,b] w fun e w'=>∃v,e=.returned v∧Q v w':=by
 go_enter Tryz.func94,Tryz.ntmps94;go_wp2_with fail
 refine h.mono ?_;rintro r w1 ⟨v,rfl,hq⟩;go_wp2;go_ret;exact ⟨v,rfl,hq⟩
theorem z97 {Q:Value→World→Prop} (h:Calls Tryz.prog 165 #[a] w fun e w'=>∃v,e=.returned v∧Q v w'):
  Calls Tryz.prog 97 #[a] w fun e w'=>∃v,e=.returned v∧Q v w':=by
 go_enter Tryz.func97,Tryz.ntmps97;go_wp2_with fail
 refine h.mono ?_;rintro r w1 ⟨v,rfl,hq⟩;go_wp2;go_ret;exact ⟨v,rfl,hq⟩
theorem z98 {Q:Value→World→Prop} (h:Calls Tryz.prog 166 #[a] w fun e w'=>∃v,e=.returned v∧Q v w'):
  Calls Tryz.prog 98 #[a] w fun e w'=>∃v,e=.returned v∧Q v w':=by
 go_enter Tryz.func98,Tryz.ntmps98;go_wp2_with fail
 refine h.mono ?_;rintro r w1 ⟨v,rfl,hq⟩;go_wp2;go_ret;exact ⟨v,rfl,hq⟩
theorem z99 {Q:Value→World→Prop} (h:Calls Tryz.prog 167 #[a] w fun e w'=>∃v,e=.returned v∧Q v w'):
  Calls Tryz.prog 99 #[a] w fun e w'=>∃v,e=.returned v∧Q v w':=by
 go_enter Tryz.func99,Tryz.ntmps99;go_wp2_with fail
 refine h.mono ?_;rintro r w1 ⟨v,rfl,hq⟩;go_wp2;go_ret;exact ⟨v,rfl,hq⟩
theorem z105 {Q:Value→World→Prop} (h:Calls Tryz.prog 172 #[a] w fun e w'=>∃v,e=.returned v∧Q v w'):
  Calls Tryz.prog 105 #[a] w fun e w'=>∃v,e=.returned v∧Q v w':=by
 go_enter Tryz.func105,Tryz.ntmps105;go_wp2_with fail
 refine h.mono ?_;rintro r w1 ⟨v,rfl,hq⟩;go_wp2;go_ret;exact ⟨v,rfl,hq⟩
theorem z107 {Q:Value→World→Prop} (h:Calls Tryz.prog 178 #[a] w fun e w'=>∃v,e=.returned v∧Q v w'):
  Calls Tryz.prog 107 #[a] w fun e w'=>∃v,e=.returned v∧Q v w':=by
 go_enter Tryz.func107,Tryz.ntmps107;go_wp2_with fail
 refine h.mono ?_;rintro r w1 ⟨v,rfl,hq⟩;go_wp2;go_ret;exact ⟨v,rfl,hq⟩
theorem z108 {Q:Value→World→Prop} (h:Calls Tryz.prog 179 #[a] w fun e w'=>∃v,e=.returned v∧Q v w'):
  Calls Tryz.prog 108 #[a] w fun e w'=>∃v,e=.returned v∧Q v w':=by
 go_enter Tryz.func108,Tryz.ntmps108;go_wp2_with fail
 refine h.mono ?_;rintro r w1 ⟨v,rfl,hq⟩;go_wp2;go_ret;exact ⟨v,rfl,hq⟩
theorem z110 {Q:Value→World→Prop} (h:Calls Tryz.prog 181 #[a] w fun e w'=>∃v,e=.returned v∧Q v w'):
  Calls Tryz.prog 110 #[a] w fun e w'=>∃v,e=.returned v∧Q v w':=by
 go_enter Tryz.func110,Tryz.ntmps110;go_wp2_with fail
 refine h.mono ?_;rintro r w1 ⟨v,rfl,hq⟩;go_wp2;go_ret;exact ⟨v,rfl,hq⟩
theorem z80 {Q:Value→Value→World→Prop} (h:Calls Tryz.prog 144 #[a,b,c] w fun e w'=>∃x y,e=.returned (.tuple #[x,y])∧Q x y w'):
  Calls Tryz.prog 80 #[a,b,c] w fun e w'=>∃x y,e=.returned (.tuple #[x,y])∧Q x y w':=by
 go_enter Tryz.func80,Tryz.ntmps80;go_wp2_with fail
 refine h.mono ?_;rintro r w1 ⟨x,y,rfl,hq⟩;go_wp2;go_ret2;exact ⟨x,y,rfl,hq⟩
theorem z83 {Q:Value→Value→World→Prop} (h:Calls Tryz.prog 147 #[a,b] w fun e w'=>∃x y,e=.returned (.tuple #[x,y])∧Q x y w'):
  Calls Tryz.prog 83 #[a,b] w fun e w'=>∃x y,e=.returned (.tuple #[x,y])∧Q x y w':=by
 go_enter Tryz.func83,Tryz.ntmps83;go_wp2_with fail
 refine h.mono ?_;rintro r w1 ⟨x,y,rfl,hq⟩;go_wp2;go_ret2;exact ⟨x,y,rfl,hq⟩
theorem z84 {Q:Value→Value→World→Prop} (h:Calls Tryz.prog 148 #[a,b,c] w fun e w'=>∃x y,e=.returned (.tuple #[x,y])∧Q x y w'):
  Calls Tryz.prog 84 #[a,b,c] w fun e w'=>∃x y,e=.returned (.tuple #[x,y])∧Q x y w':=by
 go_enter Tryz.func84,Tryz.ntmps84;go_wp2_with fail
 refine h.mono ?_;rintro r w1 ⟨x,y,rfl,hq⟩;go_wp2;go_ret2;exact ⟨x,y,rfl,hq⟩
theorem z86 {Q:Value→Value→World→Prop} (h:Calls Tryz.prog 153 #[a,b,c,d] w fun e w'=>∃x y,e=.returned (.tuple #[x,y])∧Q x y w'):
  Calls Tryz.prog 86 #[a,b,c,d] w fun e w'=>∃x y,e=.returned (.tuple #[x,y])∧Q x y w':=by
 go_enter Tryz.func86,Tryz.ntmps86;go_wp2_with fail
 refine h.mono ?_;rintro r w1 ⟨x,y,rfl,hq⟩;go_wp2;go_ret2;exact ⟨x,y,rfl,hq⟩
theorem z109 {Q:Value→Value→World→Prop} (h:Calls Tryz.prog 180 #[a] w fun e w'=>∃x y,e=.returned (.tuple #[x,y])∧Q x y w'):
  Calls Tryz.prog 109 #[a] w fun e w'=>∃x y,e=.returned (.tuple #[x,y])∧Q x y w':=by
 go_enter Tryz.func109,Tryz.ntmps109;go_wp2_with fail
 refine h.mono ?_;rintro r w1 ⟨x,y,rfl,hq⟩;go_wp2;go_ret2;exact ⟨x,y,rfl,hq⟩
theorem z90 {Q:World→Prop} (h:Calls Tryz.prog 158 #[a,b] w fun e w'=>e=.returned (.tuple #[])∧Q w'):
  Calls Tryz.prog 90 #[a,b] w fun e w'=>e=.returned (.tuple #[])∧Q w':=by
 go_enter Tryz.func90,Tryz.ntmps90;go_wp2_with fail
 refine h.mono ?_;rintro r w1 ⟨rfl,hq⟩;go_wp2;go_end0;exact ⟨rfl,hq⟩
theorem z95 {Q:World→Prop} (h:Calls Tryz.prog 163 #[a,b,c,d] w fun e w'=>e=.returned (.tuple #[])∧Q w'):
  Calls Tryz.prog 95 #[a,b,c,d] w fun e w'=>e=.returned (.tuple #[])∧Q w':=by
 go_enter Tryz.func95,Tryz.ntmps95;go_wp2_with fail
 refine h.mono ?_;rintro r w1 ⟨rfl,hq⟩;go_wp2;go_end0;exact ⟨rfl,hq⟩
theorem z96 {Q:World→Prop} (h:Calls Tryz.prog 164 #[a,b,c] w fun e w'=>e=.returned (.tuple #[])∧Q w'):
  Calls Tryz.prog 96 #[a,b,c] w fun e w'=>e=.returned (.tuple #[])∧Q w':=by
 go_enter Tryz.func96,Tryz.ntmps96;go_wp2_with fail
 refine h.mono ?_;rintro r w1 ⟨rfl,hq⟩;go_wp2;go_end0;exact ⟨rfl,hq⟩
theorem z100 {Q:World→Prop} (h:Calls Tryz.prog 168 #[a] w fun e w'=>e=.returned (.tuple #[])∧Q w'):
  Calls Tryz.prog 100 #[a] w fun e w'=>e=.returned (.tuple #[])∧Q w':=by
 go_enter Tryz.func100,Tryz.ntmps100;go_wp2_with fail
 refine h.mono ?_;rintro r w1 ⟨rfl,hq⟩;go_wp2;go_end0;exact ⟨rfl,hq⟩
theorem z102 {Q:World→Prop} (h:Calls Tryz.prog 170 #[a,b] w fun e w'=>e=.returned (.tuple #[])∧Q w'):
  Calls Tryz.prog 102 #[a,b] w fun e w'=>e=.returned (.tuple #[])∧Q w':=by
 go_enter Tryz.func102,Tryz.ntmps102;go_wp2_with fail
 refine h.mono ?_;rintro r w1 ⟨rfl,hq⟩;go_wp2;go_end0;exact ⟨rfl,hq⟩
theorem z103 {Q:World→Prop} (h:Calls Tryz.prog 171 #[a,b] w fun e w'=>e=.returned (.tuple #[])∧Q w'):
  Calls Tryz.prog 103 #[a,b] w fun e w'=>e=.returned (.tuple #[])∧Q w':=by
 go_enter Tryz.func103,Tryz.ntmps103;go_wp2_with fail
 refine h.mono ?_;rintro r w1 ⟨rfl,hq⟩;go_wp2;go_end0;exact ⟨rfl,hq⟩
theorem z81 {Q:Value→World→Prop} {t i:Int} (h:Calls Tryz.prog 145 #[a,.agg #[.int .u64 t,.int .u64 i]] w fun e w'=>∃v,e=.returned v∧Q v w'):
  Calls Tryz.prog 81 #[a,.int .u64 t,.int .u64 i] w fun e w'=>∃v,e=.returned v∧Q v w':=by
 go_enter Tryz.func81,Tryz.ntmps81;go_wp2_with fail
 refine h.mono ?_;rintro r w1 ⟨v,rfl,hq⟩;go_wp2;go_ret;exact ⟨v,rfl,hq⟩
theorem z82 {Q:Value→World→Prop} {t i:Int} (h:Calls Tryz.prog 146 #[a,.agg #[.int .u64 t,.int .u64 i]] w fun e w'=>∃v,e=.returned v∧Q v w'):
  Calls Tryz.prog 82 #[a,.int .u64 t,.int .u64 i] w fun e w'=>∃v,e=.returned v∧Q v w':=by
 go_enter Tryz.func82,Tryz.ntmps82;go_wp2_with fail
 refine h.mono ?_;rintro r w1 ⟨v,rfl,hq⟩;go_wp2;go_ret;exact ⟨v,rfl,hq⟩
theorem z91 {Q:Value→World→Prop} {t i:Int} (h:Calls Tryz.prog 159 #[a,.agg #[.int .u64 t,.int .u64 i]] w fun e w'=>∃v,e=.returned v∧Q v w'):
  Calls Tryz.prog 91 #[a,.int .u64 t,.int .u64 i] w fun e w'=>∃v,e=.returned v∧Q v w':=by
 go_enter Tryz.func91,Tryz.ntmps91;go_wp2_with fail
 refine h.mono ?_;rintro r w1 ⟨v,rfl,hq⟩;go_wp2;go_ret;exact ⟨v,rfl,hq⟩
theorem z101 {Q:World→Prop} {t i:Int} (h:Calls Tryz.prog 169 #[a,.agg #[.int .u64 t,.int .u64 i]] w fun e w'=>e=.returned (.tuple #[])∧Q w'):
  Calls Tryz.prog 101 #[a,.int .u64 t,.int .u64 i] w fun e w'=>e=.returned (.tuple #[])∧Q w':=by
 go_enter Tryz.func101,Tryz.ntmps101;go_wp2_with fail
 refine h.mono ?_;rintro r w1 ⟨rfl,hq⟩;go_wp2;go_end0;exact ⟨rfl,hq⟩
theorem z89 {Q:World→Prop} {t i:Int} (h:Calls Tryz.prog 157 #[a] w fun e w'=>e=.returned (.agg #[.int .u64 t,.int .u64 i])∧Q w') (h2:∀w,Q w→Calls Tryz.prog 156 #[.agg #[.int .u64 t,.int .u64 i]] w fun e w'=>e=.returned (.tuple #[.int .u64 t,.int .u64 i])∧Q w'):
  Calls Tryz.prog 89 #[a] w fun e w'=>e=.returned (.tuple #[.int .u64 t,.int .u64 i])∧Q w':=by
 go_enter Tryz.func89,Tryz.ntmps89;go_wp2_with fail
 refine h.mono ?_;rintro r w1 ⟨rfl,hq⟩;go_wp2_with fail
 refine (h2 _ hq).mono ?_;rintro r w2 ⟨rfl,hq2⟩;go_wp2;go_ret2;exact ⟨rfl,hq2⟩
end
section
variable {N:Nat} {w w':World} {J:LId} {g:LgL}
theorem LgL.conflict_at (g:LgL):∀l:List Ent,g.conflict l=0∨∃j,j<l.length∧g.conflict l=(l.getD j default).index
 |[]=>.inl rfl
 |e::r=>by
  unfold LgL.conflict;split
  ·rcases LgL.conflict_at g r with h|⟨j,h1,h2⟩
   ·exact .inl h
   ·exact .inr ⟨j+1,by simpa using h1,by simpa using h2⟩
  ·exact .inr ⟨0,by simp,rfl⟩
theorem LgL.commit_ok? {n:Int} {g':LgL} (ho:g.Ok) (h:g.commit? n=some g'):g'=g.commit n∧n≤g.last:=by
 unfold LgL.commit? at h;have:=ho.c1;split at h
 ·cases h
 ·cases h;exact ⟨rfl,by omega⟩
theorem LgL.Ok.ofCommit {g0:LgL} {n:Int} (ho:g0.Ok) (h1:(g.commit n).Ok) (hs:g.s=g0.s) (hc:g.com=g0.com) (ha:g.apg=g0.apg) (hd:g.apd=g0.apd) (hh:g.u.has=g0.u.has) (hn:g.u.snap=g0.u.snap):g.Ok:=by
 have e1:(g.commit n).s=g.s:=rfl;have e2:(g.commit n).u=g.u:=rfl;have e3:(g.commit n).last=g.last:=rfl;have e4:(g.commit n).first=g.first:=rfl;have e5:g.com≤(g.commit n).com:=by unfold LgL.commit;simp only;split<;>omega
 have e6:g.first=g0.first:=by unfold LgL.first;rw [hs,hh,hn]
 have h2:=h1.c1;rw [e3] at h2;have h3:=ho.c2;exact ⟨h1.s,h1.u,h1.gap,by omega,by omega,by rw [hd];exact ho.a0,by rw [hd,ha];exact ho.a1,by rw [ha,hc];exact ho.a2,h1.z1,h1.z2,h1.g0,h1.g2⟩
theorem lgMaybe_no {t:SlV} {a b pT pI:Int} (h:Jf N w J g) (ho:g.Ok) (hi0:0≤pI) (hi:pI<4611686018427387904) (hm:g.matches pT pI=false):
  Calls Tryz.prog 142 #[.pointer (some ⟨J.l,0,none⟩),.agg #[.int .u64 a,.int .u64 pT,.int .u64 pI,.slice t.A t.n t.c],.int .u64 b] w fun e w'=>e=.returned (.tuple #[.int .u64 0,.bool false])∧Jf N w' J g∧Upd (fun k=>k=J.I.ms) w w':=by
 have HH:=qq fun (w':World) (hu:Upd No w w')=>h.no hu;have HM:=qq fun (w:World) (h:Jf N w J g)=>lgMatch h ho (t:=pT) hi0 (show pI<4611686018427387905 by omega);rw [hm] at HM;have U0:=qq fun (o:Obj)=>(Upd.refl No w).alloc o;clear h ho hm;go_enter Tryz.func142,Tryz.ntmps142;go_wp2_with fail
 refine (HM.out _ (HH.out _ (U0.out _))).mono ?_;rintro r w1 ⟨rfl,hR,hU⟩;go_wp2;go_ret2;exact ⟨rfl,hR,(U0.out _).ofNo.Ke hU⟩
theorem lgMaybe_all {t:SlV} {es:List Ent} {a b pT pI:Int} (h:Jf N w J g) (ho:g.Ok) (hp:PArr N w 0 t es) (hok:AllOk' es) (hlen:es.length≤1000) (hi0:0≤pI) (hi:pI<4611686018427387904) (hm:g.matches pT pI=true)
  (hc:g.conflict es=0) (hl:min b (pI+es.length)≤g.last):
  Calls Tryz.prog 142 #[.pointer (some ⟨J.l,0,none⟩),.agg #[.int .u64 a,.int .u64 pT,.int .u64 pI,.slice t.A t.n t.c],.int .u64 b] w fun e w'=>e=.returned (.tuple #[.int .u64 (pI+es.length),.bool true])∧Jf N w' J (g.commit (min b (pI+es.length)))∧Upd (LU N w) w w':=by
 rw [hp.len] at hl ⊢;have ht:t.n≤1000:=by have:=hp.len;omega
 have HH:=qq fun (w':World) (hu:Upd No w w')=>h.no hu;have HM:=qq fun (w:World) (h:Jf N w J g)=>lgMatch h ho (t:=pT) hi0 (show pI<4611686018427387905 by omega);rw [hm] at HM;have HK:=qq fun (w:World) (h:Jf N w J g) (hp:PArr N w 0 t es)=>lgConflict h ho hp hok (by omega);rw [hc] at HK;have HC:=qq fun (w:World) (h:Jf N w J g) (n:Int) (hn:n≤g.last)=>lgCommit h ho hn;have hms:=h.ms_ty.lt;have hne:w.heap.size≠J.I.ms:=by omega
 have hlms:J.l≠J.I.ms:=h.msl
 have HP:=qq fun (o:Obj) (w':World) (hu:Upd (fun k=>k=J.I.ms) (w.alloc o) w')=>(hp.upd ((Upd.refl No w).alloc o) ((Upd.refl No w).alloc o).fr0 (fun _ _ _ h=>h)).upd_ hu (hu.fr (by
   rintro k rfl
   exact ⟨h.st.N,.inr ⟨134,h.ms_ty.upd ((Upd.refl No w).alloc o) (fun h=>h),rfl⟩⟩)) (by
   rintro k rfl ht
   exact (h.ms_ty.upd ((Upd.refl No w).alloc o) (fun h=>h)).ne_ ht (by decide) rfl)
 have HLM:=qq fun (w w':World) (h:Jf N w J g) (hu:Upd (fun k=>k=J.I.ms) w w')=>h.lu_ms hu;have HA:=qq ((Upd.refl (LU N w) w).alloc (.cells #[.int .u64 a,.int .u64 pT,.int .u64 pI,t.v] 148));have U0:=qq fun (o:Obj)=>(Upd.refl No w).alloc o;obtain ⟨L,hL⟩:∃L,L=pI+(t.n:Int):=⟨_,rfl⟩;rw [←hL] at hl ⊢;have HLL:=qq hL;have c6:=h.c6;clear h ho hm hc hp hms hL;go_enter Tryz.func142,Tryz.ntmps142;go_wp2_with fail
 refine (HM.out _ (HH.out _ (U0.out _))).mono ?_;rintro r w1 ⟨rfl,hR,hU⟩;have b2:w1.cell? ⟨w.heap.size,2,none⟩=some (.int .u64 pI):=hU.cell (by simp) hne;have b3:w1.cell? ⟨w.heap.size,3,none⟩=some t.v:=hU.cell (by simp) hne;have HP1:=qq (HP.out _ _ hU);have HU1:=qq (HLM.out _ _ (HH.out _ (U0.out _)) hU);have HR:=qq hR;clear hR hU;go_wp2_with fail
 refine (HK.out _ HR.out HP1.out).mono ?_;rintro r w2 ⟨rfl,hR2,hU2⟩;have b2':=hU2.cell b2 hne;have b3':=hU2.cell b3 hne;have HU2:=qq (LU.trans HU1.out (HLM.out _ _ HR.out hU2));have HR2:=qq hR2;clear hR2 hU2;rw [←HLL.out];go_wp2_with fail
 all_goals
  refine (HC.out _ HR2.out _ (by omega)).mono ?_;rintro r w3 ⟨rfl,hR3,hU3⟩;go_wp2;go_ret2;refine ⟨rfl,?_,LU.trans HA.out (LU.trans HU2.out hU3)⟩;first
   |(rw [show min b L=b by omega];exact hR3)
   |(rw [show min b L=L by omega];exact hR3)
theorem lgMaybe_app {t:SlV} {es:List Ent} {a b pT pI:Int} {j:Nat} {g1:LgL} (h:Jf N w J g) (ho:g.Ok) (hp:PArr N w 0 t es) (hok:AllOk' es) (hlen:es.length≤1000) (hi0:0≤pI) (hi:pI<4611686018427387904) (hm:g.matches pT pI=true)
  (hj:j<es.length) (hc:g.conflict es=pI+1+j) (hcm:g.com<pI+1+j) (ha:g.append (es.drop j)=some g1) (ho1:g1.Ok) (hl:min b (pI+es.length)≤g1.last)
  (hsep:∀b o b' o',J.I.es.A=some ⟨b,o,none⟩→t.A=some ⟨b',o',none⟩→b≠b'):
  Calls Tryz.prog 142 #[.pointer (some ⟨J.l,0,none⟩),.agg #[.int .u64 a,.int .u64 pT,.int .u64 pI,.slice t.A t.n t.c],.int .u64 b] w fun e w'=>e=.returned (.tuple #[.int .u64 (pI+es.length),.bool true])∧(∃J',J'.as J∧Jf N w' J' (g1.commit (min b (pI+es.length))))∧Upd (LU N w) w w':=by
 rw [hp.len] at hl ⊢;have ht:t.n≤1000:=by have:=hp.len;omega
 have hjn:j<t.n:=by have:=hp.len;omega
 obtain ⟨b0,o0,p0,hA,_⟩:=hp.at_ hjn;obtain ⟨tA,tn,tc⟩:=t;simp only at hA ht hjn hsep hl ⊢;subst hA;have HH:=qq fun (w':World) (hu:Upd No w w')=>h.no hu;have HM:=qq fun (w:World) (h:Jf N w J g)=>lgMatch h ho (t:=pT) hi0 (show pI<4611686018427387905 by omega);rw [hm] at HM;have HK:=qq fun (w:World) (h:Jf N w J g) (hp:PArr N w 0 ⟨some ⟨b0,o0,none⟩,tn,tc⟩ es)=>lgConflict h ho hp hok (by omega);rw [hc] at HK
 have HD:=qq fun (w:World) (hp:PArr N w 0 ⟨some ⟨b0,o0,none⟩,tn,tc⟩ es)=>(show PArr N w 0 ⟨some ⟨b0,o0+j,none⟩,tn - j,tc - j⟩ (es.drop j) from by
  have:=hp.drop_ (a:=j) (Nat.le_of_lt hjn);rwa [Nat.zero_sub] at this)
 have HAP:=qq fun (w:World) (h:Jf N w J g) (hp:PArr N w 0 ⟨some ⟨b0,o0+j,none⟩,tn - j,tc - j⟩ (es.drop j))=>lgAppend h ho hp ha ho1 (by simp;omega) (fun hd=>by
  have h1:=(hok j hj).1;unfold idx0;rw [List.getD_eq_getElem?_getD,List.getElem?_drop,Nat.add_zero,←List.getD_eq_getElem?_getD]
  exact h1) (fun b o b' o' hA hA'=>by cases hA';exact hsep b o b0 o0 hA rfl)
 have HC:=qq fun (w:World) (J:LId) (h:Jf N w J g1) (n:Int) (hn:n≤g1.last)=>lgCommit h ho1 hn;have hms:=h.ms_ty.lt;have hne:w.heap.size≠J.I.ms:=by omega
 have hlms:J.l≠J.I.ms:=h.msl
 have HP:=qq fun (o:Obj) (w':World) (hu:Upd (fun k=>k=J.I.ms) (w.alloc o) w')=>(hp.upd ((Upd.refl No w).alloc o) ((Upd.refl No w).alloc o).fr0 (fun _ _ _ h=>h)).upd_ hu (hu.fr (by
   rintro k rfl
   exact ⟨h.st.N,.inr ⟨134,h.ms_ty.upd ((Upd.refl No w).alloc o) (fun h=>h),rfl⟩⟩)) (by
   rintro k rfl ht
   exact (h.ms_ty.upd ((Upd.refl No w).alloc o) (fun h=>h)).ne_ ht (by decide) rfl)
 have HP2:=qq fun (w w':World) (h:Jf N w J g) (hp:PArr N w 0 ⟨some ⟨b0,o0,none⟩,tn,tc⟩ es) (hu:Upd (fun k=>k=J.I.ms) w w')=>hp.upd_ hu (hu.fr (by
   rintro k rfl
   exact ⟨h.st.N,.inr ⟨134,h.ms_ty,rfl⟩⟩)) (by
   rintro k rfl ht
   exact h.ms_ty.ne_ ht (by decide) rfl)
 have HLM:=qq fun (w w':World) (h:Jf N w J g) (hu:Upd (fun k=>k=J.I.ms) w w')=>h.lu_ms hu;have HA:=qq ((Upd.refl (LU N w) w).alloc (.cells #[.int .u64 a,.int .u64 pT,.int .u64 pI,.slice (some ⟨b0,o0,none⟩) tn tc] 148));have U0:=qq fun (o:Obj)=>(Upd.refl No w).alloc o;obtain ⟨L,hL⟩:∃L,L=pI+(tn:Int):=⟨_,rfl⟩;rw [←hL] at hl ⊢;have HLL:=qq hL;have htc:tn≤tc:=hp.cap;have hx0:¬pI+1+(j:Int)=0:=by omega
 have hx1:¬pI+1+(j:Int)≤g.com:=by omega
 have hj4:pI+1+(j:Int) - (pI+1)=(j:Int):=by omega
 clear h ho hm hc hp hms hL ha hok hsep hj hcm hlen;go_enter Tryz.func142,Tryz.ntmps142;go_wp2_with fail
 refine (HM.out _ (HH.out _ (U0.out _))).mono ?_;rintro r w1 ⟨rfl,hR,hU⟩;have b2:w1.cell? ⟨w.heap.size,2,none⟩=some (.int .u64 pI):=hU.cell (by simp) hne;have b3:w1.cell? ⟨w.heap.size,3,none⟩=some (.slice (some ⟨b0,o0,none⟩) tn tc):=hU.cell (by simp) hne;have HP1:=qq (HP.out _ _ hU);have HU1:=qq (HLM.out _ _ (HH.out _ (U0.out _)) hU);have HR:=qq hR;clear hR hU;go_wp2_with fail
 refine (HK.out _ HR.out HP1.out).mono ?_;rintro r w2 ⟨rfl,hR2,hU2⟩;have b2':=hU2.cell b2 hne;have b3':=hU2.cell b3 hne;have c6:=hR2.c6;have HU2:=qq (LU.trans HU1.out (HLM.out _ _ HR.out hU2));have HPD:=qq (HD.out _ (HP2.out _ _ HR.out HP1.out hU2));have HR2:=qq hR2;clear hR2 hU2;rw [←HLL.out];go_wp2_with fail
 refine (HAP.out _ HR2.out HPD.out).mono ?_;rintro r w3 ⟨rfl,⟨J1,e1,R1⟩,U1⟩;have HU3:=qq (LU.trans HU2.out U1);have E1:=qq e1;have HC1:=qq (HC.out _ _ R1);have e1':J1.l=J.l:=e1.l;rw [e1'] at HC1;clear e1';clear e1 U1 R1;go_wp2_with fail
 all_goals
  refine (HC1.out _ (by omega)).mono ?_;rintro r w4 ⟨rfl,hR4,hU4⟩;go_wp2;go_ret2;refine ⟨rfl,⟨J1,E1.out,?_⟩,LU.trans HA.out (LU.trans HU3.out hU4)⟩;first
   |(rw [show min b L=b by omega];exact hR4)
   |(rw [show min b L=L by omega];exact hR4)
end
end Go.Proofs.YtmagnkjodjmojaaGreat
