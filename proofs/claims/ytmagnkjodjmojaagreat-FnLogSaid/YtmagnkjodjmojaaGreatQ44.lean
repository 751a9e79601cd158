/- A part of the proof of FnLog: laws and walks, with their conditions written at each. -/
import Derived.Test.YtmagnkjodjmojaaGreatQ43
set_option maxRecDepth 20000
set_option maxHeartbeats 4000000
set_option linter.all false
namespace Go.Proofs.YtmagnkjodjmojaaGreat
open Go.RowKit
section
variable {N:Nat} {w w':World}
theorem drop_getD {α:Type} [Inhabited α] {l:List α} {k:Nat} (h:k<l.length):l.drop k=l.getD k default::l.drop (k+1):=by
 rw [List.drop_eq_getElem_cons h,List.getD_eq_getElem?_getD,List.getElem?_eq_getElem h];rfl
theorem SRun_app:∀(l1 l2:List SCall) (s:StL),SRun s (l1++l2)=(SRun s l1).bind fun s1=>SRun s1 l2
 |[],_,_=>rfl
 |c::r,l2,s=>by
  show (SDo s c).bind (fun x=>SRun x.2 (r++l2))=((SDo s c).bind fun x=>SRun x.2 r).bind _;cases SDo s c with
  |none=>rfl
  |some x=>exact SRun_app r l2 x.2
theorem SRun_stop {cs:List SCall} {k:Nat} {s s1:StL} (h:SRun s (cs.take k)=some s1) (hk:k<cs.length) (hn:SDo s1 (cs.getD k default)=none):SRun s cs=none:=by
 rw [←List.take_append_drop k cs,SRun_app,h];show SRun s1 (cs.drop k)=none;rw [drop_getD hk];show (SDo s1 _).bind _=none;rw [hn];rfl
def LogOfR (N:Nat) (w:World) (cs:List SCall) (size:Int) (e:Ending) (w':World):Prop:=
 (SRun StL.zero cs=none∧e=.returned (.tuple #[.pointer none,.bool false])∧Upd No w w')∨
 ∃(s:StL) (l:Nat) (A:StK) (B:TlK),SRun StL.zero cs=some s∧s.Ok∧s.L.length≤3600∧e=.returned (.tuple #[.pointer (some ⟨l,0,none⟩),.bool (decide (0<size) && decide (size<4611686018427387904))])∧Ka N w' l A B (LgL.fresh s size)∧w.heap.size≤A.b∧w.heap.size≤B.b∧w.heap.size≤l∧Upd No w w'
theorem logOf8 {sl:SlV} {V:Nat→Jd} {cs:List SCall} (h:RdSC N w sl V cs) (hlen:cs.length≤60) (hok:∀j,j<cs.length→(cs.getD j default).Ok) (hN:N≤w.heap.size) {size:Int}:
  Calls Tryz.prog 8 #[.slice sl.A sl.n sl.c,.int .u64 size] w (LogOfR N w cs size):=by
 have hl:=h.1.len;have HH:=qq fun (W:World) (hu:Upd No w W)=>(show RdSC N W sl V cs from h.fr hu.fr0);have HOK:=qq hok;have HL:=qq hl;have hsn:sl.n≤60:=by omega
 obtain ⟨wa,hwa⟩:∃W,W=w.alloc (.cells #[.string ⟨#[]⟩,.int .u64 0,.int .u64 0,.slice none 0 0,.slice none 0 0,.slice none 0 0,.slice none 0 0,.bool false,.int .u64 0,.int .u64 0,.int .u64 0,.bool false,.int .u64 0,.int .u64 0,.slice none 0 0] 67):=⟨_,rfl⟩;have HUA:=qq (show Upd No w wa by rw [hwa];exact (Upd.refl No w).alloc _);have HST:=qq (show Kb N wa ⟨w.heap.size,SnV.nil,SlV.nil,0,0,0,false⟩ StL.zero from ⟨by rw [hwa];exact Blk.new w _ _,SnV.Js _ _,Jg.nil none,hN⟩);have HNN:=qq hN;have HWA:=qq hwa;clear h hl hok hlen hN hwa;go_enter Tryz.func8,Tryz.ntmps8;go_wp2_with fail
 rw [←HWA.out];go_loopw [14] (fun i wr=>∃(k:Nat) (I:StK) (s:StL),k≤sl.n∧i=.int .i64 (k:Nat)∧I.b=w.heap.size∧Hid (Kb N wr I s)∧Hid (SRun StL.zero (cs.take k)=some s)∧Hid (s.Ok∧s.L.length≤60*k)∧Hid (Upd No w wr)) (fun i _=>sl.n - (intOf i).toNat)
 case atStart=>exact ⟨0,_,StL.zero,Nat.zero_le _,rfl,rfl,HST,qq rfl,qq ⟨StL.zero_ok,Nat.le_refl _⟩,HUA⟩
 case round=>
  obtain ⟨k,I,s,hk,rfl,hIb,hst,hrun,hso,hu⟩:=hrel;by_cases hlt:k<sl.n
  ·have hkc:k<cs.length:=by have:=HL.out;omega
   obtain ⟨b,o,hA,hi,hc⟩:=(HH.out wr hu.out).1.at_ (by omega);have hvk:=(HH.out wr hu.out).2 k hkc;have hck:=HOK.out k hkc;have HR:=qq (show wr.rangeAt b (o+k*16) (V k).cells.toList from range_of rfl (fun i hi=>hc k i hlt hi))
   have HNX:=qq fun (x:SAns×StL) (hx:SDo s (cs.getD k default)=some x)=>(show SRun StL.zero (cs.take (k+1))=some x.2∧x.2.Ok∧x.2.L.length≤60*(k+1) from by
    have h1:=hso.out;have h2:=SDo_ok (A:=x.1) (s':=x.2) hx h1.1 hck (by omega);refine ⟨?_,h2.1,by omega⟩;rw [take_succ_getD hkc,SRun_snoc,hrun.out];show (SDo s _).map (·.2)=_
    rw [hx];rfl)
   have HSTOP:=qq fun (hx:SDo s (cs.getD k default)=none)=>SRun_stop hrun.out hkc hx;generalize hvv:V k=v at*;generalize cs.getD k default=c at*;have HI:=qq (show (Tryz.prog.info? 43).map (·.size)=some v.cells.toList.length from (by kernel_rfl:(Tryz.prog.info? 43).map (·.size)=some 16));have hsm:s.Sm:=⟨hso.out.1.i0,by have:=hso.out.1.i0;have:=hso.out.1.last;unfold StL.last at*;omega,by have:=hso.out.2;omega⟩;have HDO:=qq (spStDo hst.out hsm hvk hck);rw [hIb] at HDO;have HIB:=qq hIb;have HVV:=qq hvv;rw [hA];clear hc hi hvk hck hsm hIb hvv hst hrun hso hkc
   go_wp2_with (first
    |(with_reducible refine load_midA rfl 43 (.tmp 21) rfl b (o+k*16) rfl v.cells _ HR.out Tryz.underlying43 rfl HI.out ?_)
    |fail)
   refine HDO.out.mono ?_;rintro r w2 ⟨An,bb,I2,s2,rfl,hI2,hS2,hu2,h1,h2⟩;have HS2:=qq hS2;have HI2:=qq (hI2.trans HIB.out);have HU2:=qq (hu.out.trans hu2 (fun j hj=>.inr (by rw [hj,HIB.out];exact Nat.le_refl _)));have H3:=qq (And.intro h1 h2);have HBN:=qq (Blk.new w2 69 (Z69 0 0));have HINF:=qq An.inf;have HONE:=qq An.one;have HSZ:=qq (show ((Z69 0 0):Array Value).size=An.cells.size from rfl);clear hI2 hS2 hu2 h1 h2
   go_upto_region 6 with (first
    |(with_reducible refine Jk rfl 69 (.tmp 8) (.tmp 24) rfl w2.heap.size An.cells rfl rfl 69 (Z69 0 0) HBN.out HINF.out HSZ.out HONE.out ?_
      intro w3 hb3 hu3;have HU3:=qq (show Upd No w2 w3 from ((Upd.refl No w2).alloc _).trans hu3 (by rintro j rfl;exact .inr (Nat.le_refl _)))
      clear hb3 hu3)
    |fail)
   rcases bb with _|_
   ·have HN:=qq (HSTOP.out (by
     rcases hq:SDo s c with _|⟨x1,x2⟩
     ·rfl
     ·have:=(H3.out.2 x1 x2 hq).1;cases this))
    go_wp2;go_ret2;exact .inl ⟨HN.out,rfl,HU2.out.no HU3.out⟩
   ·rcases hq:SDo s c with _|⟨x1,x2⟩
    ·have:=H3.out.1 hq;cases this
    ·have HX:=qq (HNX.out _ hq);have HE:=qq (H3.out.2 x1 x2 hq).2.2;have HN2:=qq hq;clear hq;go_wp2;exact ⟨⟨k+1,I2,s2,by omega,by simp,HI2.out,qq (HS2.out.no HU3.out),qq (HE.out ▸HX.out.1),qq (HE.out ▸HX.out.2),qq (HU2.out.no HU3.out)⟩,by simp [intOf];omega⟩
  ·obtain rfl:k=sl.n:=by omega
   have HRUN:=qq (show SRun StL.zero cs=some s by have:=hrun.out;rwa [List.take_of_length_le (by have:=HL.out;omega)] at this);have hso:=hso.out;have hsm:s.Sm:=⟨hso.1.i0,by have:=hso.1.i0;have:=hso.1.last;unfold StL.last at*;omega,by have:=hso.2;omega⟩;have HNL:=qq (spNewLog (size:=size) hst.out hsm);have HSO:=qq hso;rw [hIb] at HNL;have HIB:=qq hIb;clear hsm hso hrun hst hIb;by_cases e1:0<size
   ·have d1:decide (0<size)=true:=decide_eq_true e1;clear e1;go_wp2_with fail
    refine HNL.out.mono ?_;rintro r w2 ⟨l,B,rfl,hL,hl1,hl2,hu2⟩;have HLG:=qq hL;have HL1:=qq (Nat.le_trans hu.out.size hl1);have HL2:=qq (Nat.le_trans hu.out.size hl2);have HU2:=qq (hu.out.no hu2);clear hL hl1 hl2 hu2;go_wp2;go_ret2;exact .inr ⟨s,l,_,B,HRUN.out,HSO.out.1,by have:=HSO.out.2;omega,by rw [d1];rfl,HLG.out,by rw [HIB.out];exact Nat.le_refl _,HL2.out,HL1.out,HU2.out⟩
   ·have d1:decide (0<size)=false:=decide_eq_false e1;clear e1;go_wp2_with fail
    refine HNL.out.mono ?_;rintro r w2 ⟨l,B,rfl,hL,hl1,hl2,hu2⟩;have HLG:=qq hL;have HL1:=qq (Nat.le_trans hu.out.size hl1);have HL2:=qq (Nat.le_trans hu.out.size hl2);have HU2:=qq (hu.out.no hu2);clear hL hl1 hl2 hu2;go_wp2;go_ret2;exact .inr ⟨s,l,_,B,HRUN.out,HSO.out.1,by have:=HSO.out.2;omega,by rw [d1];rfl,HLG.out,by rw [HIB.out];exact Nat.le_refl _,HL2.out,HL1.out,HU2.out⟩
end
section
variable {N:Nat} {w w':World}
theorem ents217 {s:SlV} {es:List Ent} (h:PArr N w 0 s es) (hok:AllOk es) (hlen:es.length≤100000):
  Calls Tryz.prog 217 #[.slice s.A s.n s.c] w fun e w'=>e=.returned (.int .u64 (sumS es es.length))∧Upd No w w':=by
 have H:=qq (entsSize h hok hlen).toU;clear h hok hlen;go_enter Tryz.func217,Tryz.ntmps217;go_wp2_with fail
 refine H.out.mono ?_;rintro r w1 ⟨rfl,u1⟩;go_wp2;go_ret;exact ⟨rfl,u1⟩
theorem ents185 {s:SlV} {es:List Ent} (h:Jh N w s es) (hok:AllOk es) (hN:N≤w.heap.size) (hlen:es.length≤1000):
  Calls Tryz.prog 185 #[.slice s.A s.n s.c] w fun e w'=>e=.returned (.int .u64 (sumS es es.length))∧Upd No w w':=by
 have H:=qq (entriesTo N s es w h (fun j hj=>hok j (by have:=h.len;omega)) hN (by have:=h.len;omega));have H2:=qq fun (W:World) (t:SlV) (ht:PArr N W 0 t es)=>ents217 ht hok (by omega);clear h hok hN hlen;go_enter Tryz.func185,Tryz.ntmps185;go_wp2_with fail
 refine H.out.mono ?_;rintro r w1 ⟨t,rfl,ht,u1,_⟩;have HT:=qq ht;have U1:=qq u1;clear ht u1;go_wp2_with fail
 refine (H2.out _ t HT.out).mono ?_;rintro r w2 ⟨rfl,u2⟩;go_wp2;go_ret;exact ⟨rfl,U1.out.no u2⟩
def sizesE (es:List Ent):List Int:=es.map esize
theorem sumS_one (e:Ent):sumS [e] [e].length=esize e:=by
 show esize e+sumS [] 0=esize e;rw [sumS_zero];omega
theorem take_drop_one {α:Type} [Inhabited α] {l:List α} {k:Nat} (h:k<l.length):(l.take (k+1)).drop k=[l.getD k default]:=by
 rw [List.drop_take,Nat.add_sub_cancel_left,drop_getD h];rfl
theorem AllOk.one {es:List Ent} (h:AllOk es) {k:Nat} (hk:k<es.length):AllOk [es.getD k default]:=fun j hj=>by
 have:j=0:=by simpa using hj
 subst this;exact h k hk
theorem sizes117 {sl:SlV} {es:List Ent} (h:Jh N w sl es) (hok:AllOk es) (hN:N≤w.heap.size) (hlen:es.length≤100000):
  Calls Tryz.prog 117 #[.slice sl.A sl.n sl.c] w fun e w'=>∃t:SlV,e=.returned (.slice t.A t.n t.c)∧Jz N w' t (sizesE es)∧Upd No w w':=by
 have hl:=h.len;have hcap:=h.cap;have HH:=qq fun (W:World) (hu:Upd No w W)=>(show Jh N W sl es from h.fr hu.fr0);have HOK:=qq hok;have HNN:=qq hN;have HL:=qq hl;have hn100:sl.n≤100000:=by omega
 clear h hok hN hlen hl;go_enter Tryz.func117,Tryz.ntmps117;go_wp2_with fail
 go_loopw [3,7] (fun v i wr=>∃k:Nat,k≤sl.n∧i=.int .i64 (k:Nat)∧Hid (wr.ownsRow w.heap.size 23 1 v k (numRow ((sizesE es).take k)))∧Hid (Upd No w wr)) (fun _ i _=>sl.n - (intOf i).toNat)
 case atStart=>exact ⟨0,Nat.zero_le _,rfl,qq (World.ownsRow_nil _ _ _ _),qq (Upd.refl No w)⟩
 case round=>
  obtain ⟨k,hk,rfl,hown,hu⟩:=hrel;by_cases hlt:k<sl.n
  ·obtain ⟨X,hX⟩:∃X,Option.map (fun x=>x.add (k*4)) sl.A=X:=⟨_,rfl⟩;have hke:k<es.length:=by have:=HL.out;omega
   have HSUB:=qq (show Jh N wr ⟨X,1,sl.c - k⟩ [es.getD k default] by
    have:=(HH.out wr hu.out).subS (show k≤k+1 by omega) (show k+1≤sl.n by omega)
    rw [if_neg (show ¬sl.c=k by omega),hX,Nat.add_sub_cancel_left,take_drop_one hke] at this;exact this)
   have HE:=qq (ents185 HSUB.out (HOK.out.one hke) (Nat.le_trans HNN.out hu.out.size) (by simp));rw [sumS_one] at HE
   have HNX:=qq (show numRow ((sizesE es).take (k+1))=numRow ((sizesE es).take k)++#[.int .u64 (esize (es.getD k default))].toList by
    rw [take_succ_getD (d:=(0:Int)) (by unfold sizesE;rw [List.length_map];exact hke)];unfold numRow sizesE;rw [List.map_append];congr 1
    simp [List.getD_eq_getElem?_getD,List.getElem?_eq_getElem hke])
   generalize esize (es.getD k default)=q at*;have j1:(k:Int)≤(k:Int)+1:=by omega
   have j2:(k:Int)+1≤(sl.c:Int):=by omega
   have j3:((k:Int)+1).toNat=k+1:=by omega
   have hk2:k+1 - k=1:=by omega
   have HHO:=qq fun (W:World) (hu2:Upd No wr W)=>(show W.ownsRow w.heap.size 23 1 u3 k (numRow ((sizesE es).take k)) from own_upd hown.out hu2 (fun _ h=>h.elim));have HUZ:=qq hu.out.size;go_wp2_with fail
   refine HE.out.mono ?_;rintro r w3 ⟨rfl,u3'⟩;have HU3:=qq u3';have HOW3:=qq (HHO.out w3 u3');have HZ3:=qq (show w.heap.size≤w3.heap.size from Nat.le_trans HUZ.out u3'.size);clear u3'
   go_upto_region 6 with (first
    |(at_builtin;refine app_one rfl (.tmp 10) (.tmp 17) 35 rfl w.heap.size 23 (.int .u64 0) 1 8 Tryz.underlying35 inf23 rfl (by omega) u3 k (numRow ((sizesE es).take k)) rfl HOW3.out #[.int .u64 q] rfl rfl (by simp [Value.oneCell']) (by simp only [maxLen];omega) (by omega) HZ3.out ?_
      intro v4 w4 ho4 hu4 hb4)
    |fail)
   have HOW4:=qq ho4;have HU4:=qq ((hu.out.no HU3.out).trans hu4 (fun j hj=>.inr (HOW3.out.lt j hj).1));clear ho4 hu4 hb4;go_wp2;exact ⟨⟨k+1,by omega,by simp,qq (HNX.out ▸HOW4.out),HU4⟩,by simp [intOf];omega⟩
  ·obtain rfl:k=sl.n:=by omega
   have hlen:(sizesE es).length=sl.n:=by unfold sizesE;rw [List.length_map];exact HL.out
   have ho:=hown.out;rw [List.take_of_length_le (by omega)] at ho;obtain ⟨t,rfl,ht,hr,_⟩:=own_nums ho N;have HR:=qq hr;clear ho hr hown;go_wp2;go_ret;exact ⟨t,rfl,HR.out,hu.out⟩
theorem longest116 {t:SlV} {es:List Ent} {max:Int} (h:Jz N w t (sizesE es)) (hok:AllOk es) (hlen:es.length≤100000) (hm0:0≤max) (hm1:max<18446744073709551616):
  Calls Tryz.prog 116 #[.slice t.A t.n t.c,.int .u64 max] w fun e w'=>e=.returned (.int .i64 (lim es max:Nat))∧w=w':=by
 have hl:=h.len;have hle:(sizesE es).length=es.length:=by unfold sizesE;rw [List.length_map]
 have HH:=qq h;have HOK:=qq hok;have HL:=qq (show t.n=es.length by omega);have hn100:t.n≤100000:=by omega
 clear h hok hlen hl hle;go_enter Tryz.func116,Tryz.ntmps116;go_wp2_with fail
 go_loopw [5,6] (fun i u wr=>∃k:Nat,k≤t.n∧i=.int .i64 (k:Nat)∧u=.int .u64 (sumS es k)∧Hid (k=0∨sumS es k≤max)∧w=wr) (fun i _ _=>t.n - (intOf i).toNat)
 case atStart=>exact ⟨0,Nat.zero_le _,rfl,by rw [sumS_zero],qq (.inl rfl),rfl⟩
 case round=>
  obtain ⟨k,hk,rfl,rfl,hs,rfl⟩:=hrel;have hbd:=sumS_bd HOK.out k (by have:=HL.out;omega);by_cases hlt:k<t.n
  ·have hke:k<es.length:=by have:=HL.out;omega
   obtain ⟨b,o,hA,_,hc⟩:=HH.out.at1 hlt;have hq:(sizesE es).getD k 0=esize (es.getD k default):=by unfold sizesE;simp [List.getD_eq_getElem?_getD,List.getElem?_eq_getElem hke]
   rw [hq] at hc;have hsu:=sumS_succ es k hke;have hqb:=esize_bd (HOK.out k hke);have HSU:=qq hsu
   have HSTOP:=qq fun (hx:max<sumS es k+esize (es.getD k default))=>(show (if k=0 then (1:Nat) else k)=lim es max from by
    rcases Nat.eq_zero_or_pos k with h0|h0
    ·subst h0;rw [if_pos rfl];refine (lim_eq HOK.out (Nat.le_refl 1) (by omega) (.inl rfl) ?_).symm;rcases Nat.lt_or_ge 1 es.length with h1|h1
     ·have:=sumS_mono HOK.out (show 1≤2 by omega) (show 2≤es.length by omega)
      rw [hsu.symm] at hx;exact .inr (Int.lt_of_lt_of_le hx this)
     ·exact .inl (by omega)
    ·rw [if_neg (by omega)]
     exact (lim_eq HOK.out h0 (by omega) (hs.out.imp (fun h=>by omega) id) (.inr (by rw [hsu];exact hx))).symm)
   rw [hA];clear hA hq hsu HH;generalize esize (es.getD k default)=q at*;obtain ⟨sm,hsm⟩:∃x,x=sumS es k:=⟨_,rfl⟩;rw [←hsm] at HSU HSTOP hbd ⊢;have HSM:=qq hsm;clear hsm hs;have hkd:decide ((k:Int)<(t.n:Int))=true:=decide_eq_true (by omega);have hbd2:=hbd.2;have hbd1:=hbd.1;have hqb1:=hqb.1;have hqb2:=hqb.2;clear hbd hqb;by_cases h1:q≤max
   ·have d1:decide (q≤max)=true:=decide_eq_true h1;have jw:IntKind.u64.wrap (max - q)=max - q:=by simp [IntKind.wrap_u64];omega
    have jx:IntKind.u64.wrap (sm+q)=sm+q:=by simp [IntKind.wrap_u64];omega
    by_cases h2:sm≤max - q
    ·have d2:decide (sm≤max - q)=true:=decide_eq_true h2;have HNX:=qq (show sumS es (k+1)=sm+q from HSU.out);go_wp2;exact ⟨⟨k+1,by omega,by simp,by rw [HNX.out],qq (.inr (by rw [HNX.out];omega)),trivial⟩,by simp [intOf];omega⟩
    ·have d2:decide (sm≤max - q)=false:=decide_eq_false h2;have HE:=qq (HSTOP.out (by omega));by_cases h0:k=0
     ·exact absurd (show sm≤max - q by rw [h0] at hbd2;omega) h2
     ·have HE:=qq (show k=lim es max from by have:=HE.out;rw [if_neg h0] at this;exact this);have hz:((k:Int)==0)=false:=beq_eq_false_iff_ne.2 (by omega);go_wp2;go_ret;exact ⟨by rw [←HE.out]<;>rfl,rfl⟩
   ·have d1:decide (q≤max)=false:=decide_eq_false h1;have HE:=qq (HSTOP.out (by omega));by_cases h0:k=0
    ·have HE:=qq (show (1:Nat)=lim es max from by have:=HE.out;rw [if_pos h0] at this;exact this);have hz:((k:Int)==0)=true:=beq_iff_eq.2 (by omega);have hc0:w.cell? ⟨b,o,none⟩=some (.int .u64 q):=by rw [h0,Nat.add_zero] at hc;exact hc
     have hz2:decide ((0:Int)<(t.n:Int))=true:=decide_eq_true (by omega);go_wp2;go_ret;exact ⟨by rw [←HE.out]<;>rfl,rfl⟩
    ·have HE:=qq (show k=lim es max from by have:=HE.out;rw [if_neg h0] at this;exact this);have hz:((k:Int)==0)=false:=beq_eq_false_iff_ne.2 (by omega);go_wp2;go_ret;exact ⟨by rw [←HE.out]<;>rfl,rfl⟩
  ·obtain rfl:k=t.n:=by omega
   have hkd:decide ((t.n:Int)<(t.n:Int))=false:=decide_eq_false (by omega)
   have HE:=qq (show t.n=lim es max from by
    rcases Nat.eq_zero_or_pos t.n with h0|h0
    ·unfold lim;rw [if_pos (by have:=HL.out;omega)];exact h0
    ·exact (lim_eq HOK.out h0 (by have:=HL.out;omega) (hs.out.imp (fun h=>by omega) id) (.inl HL.out)).symm)
   clear hs;by_cases h0:t.n=0
   ·have hz:((t.n:Int)==0)=true:=beq_iff_eq.2 (by omega);have hz2:decide ((0:Int)<(t.n:Int))=false:=decide_eq_false (by omega);go_wp2;go_ret;exact ⟨by rw [←HE.out]<;>rfl,rfl⟩
   ·have hz:((t.n:Int)==0)=false:=beq_eq_false_iff_ne.2 (by omega);go_wp2;go_ret;exact ⟨by rw [←HE.out]<;>rfl,rfl⟩
theorem limited46 {sl:SlV} {es:List Ent} {max:Int} (h:Jh N w sl es) (hok:AllOk es) (hN:N≤w.heap.size) (hlen:es.length≤100000) (hm0:0≤max) (hm1:max<18446744073709551616):
  Calls Tryz.prog 46 #[.slice sl.A sl.n sl.c,.int .u64 max] w fun e w'=>∃t:SlV,e=.returned (.slice t.A t.n t.c)∧Jh N w' t (es.take (lim es max))∧Upd No w w':=by
 have H1:=qq (sizes117 h hok hN hlen);have H2:=qq fun (W:World) (t:SlV) (ht:Jz N W t (sizesE es))=>longest116 ht hok hlen hm0 hm1;have hle:=lim_le es max;have hl:=h.len;have hcap:=h.cap;have HR:=qq fun (W:World) (hu:Upd No w W)=>(show Jh N W ⟨sl.A,lim es max,sl.c⟩ (es.take (lim es max)) from (Jh.takeS h (by omega)).fr hu.fr0);have jc:((lim es max:Nat):Int)≤(sl.c:Int):=by omega
 clear h hok hN hlen hm0 hm1 hle hl hcap;generalize lim es max=k at*;go_enter Tryz.func46,Tryz.ntmps46;go_wp2_with fail
 refine H1.out.mono ?_;rintro r w1 ⟨t,rfl,ht,u1⟩;have HT:=qq ht;have U1:=qq u1;clear ht u1;go_wp2_with fail
 refine (H2.out w1 t HT.out).mono ?_;rintro r w2 ⟨rfl,rfl⟩;go_wp2;go_ret;exact ⟨⟨sl.A,k,sl.c⟩,rfl,HR.out _ U1.out,U1.out⟩
end
section
variable {N:Nat} {w w':World}
theorem limits13 {V:Ja} {A:LAns} {v:Jc} {c:LCall} {g:LgL} {left:Int} (hV:V.Rd N w A) (hv:v.Rd N w c) (hc:c.Ok) (hok:AllOk A.es) (hlen:A.es.length≤100000) (hN:N≤w.heap.size) (hl:left=g.size - min g.size g.usg) (hl0:0≤left) (hl1:left<18446744073709551616):
  Calls Tryz.prog 13 #[.agg V.cells,.agg v.cells,.int .u64 left] w fun e w'=>∃V':Ja,e=.returned (.agg V'.cells)∧V'.Rd N w' (g.limA c A)∧V'.com=V.com∧V'.apg=V.apg∧V'.apd=V.apd∧V'.paused=V.paused∧Upd No w w':=by
 obtain ⟨wa,hwa⟩:∃W,((w.alloc (.cells V.cells 48)).alloc (.cells v.cells 45)).alloc (.cells Z48 48)=W:=⟨_,rfl⟩;have HUA:=qq (show Upd No w wa by rw [←hwa];exact (((Upd.refl No w).alloc _).alloc _).alloc _);have HP3:=qq (show Blk wa w.heap.size 48 V.cells by rw [←hwa];exact ((Blk.new w _ _).alloc _).alloc _);have HP4:=qq (show Blk wa (w.heap.size+1) 45 v.cells by rw [←hwa];exact (Blk.new_ (by simp)).alloc _);have HP6:=qq (show Blk wa (w.heap.size+1+1) 48 Z48 by rw [←hwa];exact Blk.new_ (by simp));have HV:=qq hV;have HNN:=qq hN;have hk0:=hv.kind;have hk1:=hv.st.kind;obtain ⟨kd,hkd⟩:∃k,k=v.kind:=⟨_,rfl⟩;obtain ⟨ks,hks⟩:∃k,k=v.st.kind:=⟨_,rfl⟩;have p0:wa.cell? ⟨w.heap.size+1,0,none⟩=some (.int .i64 kd):=by rw [hkd];exact HP4.out.cell 0
 have p3:wa.cell? ⟨w.heap.size+1,3,none⟩=some (.int .u64 c.c):=by rw [←hv.cc];exact HP4.out.cell 3
 have p18:wa.cell? ⟨w.heap.size+1,18,none⟩=some (.int .i64 ks):=by rw [hks];exact HP4.out.cell 18
 have p21:wa.cell? ⟨w.heap.size+1,21,none⟩=some (.int .u64 c.st.c):=by rw [←hv.st.cc];exact HP4.out.cell 21
 have e6:wa.cell? ⟨w.heap.size,6,none⟩=some V.es.v:=HP3.out.cell 6;have HLM:=qq fun (mx:Int) (h0:0≤mx) (h1:mx<18446744073709551616)=>limited46 (hV.es.fr HUA.out.fr0) hok (Nat.le_trans hN HUA.out.size) hlen h0 h1;have HC:=qq hc;have hkc:c.kind=kd:=(hkd.trans hk0).symm;have hsc:c.st.kind=ks:=(hks.trans hk1).symm;have HL0:=qq hl0;have HL1:=qq hl1;rw [hl];rw [hl] at HL0 HL1;clear hV hv hc hok hlen hN hl hl0 hl1 hk0 hk1 hkd hks;go_enter Tryz.func13,Tryz.ntmps13;by_cases n8:kd=8
 ·subst n8;have HX:=qq (show g.limA c A= {A with es:=A.es.take (lim A.es (c.c))} from by unfold LgL.limA;rw [if_pos (.inl hkc)]);have HL:=qq (HLM.out (c.c) (HC.out.c0) (HC.out.c1));clear hkc hsc;go_wp2_with fail
  refine HL.out.mono ?_;rintro r w2 ⟨t,rfl,ht,u2⟩;have HT:=qq ht;have U2:=qq u2;have HB2:=qq (HP3.out.upd u2 (fun h=>h));have HR2:=qq (HP6.out.upd u2 (fun h=>h));clear ht u2;have e6:w2.cell? ⟨w.heap.size,6,none⟩=some V.es.v:=HB2.out.cell 6;have y:=HB2.out.frozen;go_upto_region 10 with fail
  obtain ⟨w3,hw3⟩:∃W,W=w2.setCell ⟨w.heap.size,6,none⟩ t.v:=⟨_,rfl⟩;have HB3:=qq (show Blk w3 w.heap.size 48 ({V with es:=t}:Ja).cells by rw [hw3];exact HB2.out.set_ 6 _);have HR3:=qq (show Blk w3 (w.heap.size+1+1) 48 Z48 by rw [hw3];exact HR2.out.far (by simp only;omega) _);have U3:=qq (show Upd (fun k=>k=w.heap.size) w2 w3 by rw [hw3];exact (Upd.refl (fun k=>k=w.heap.size) w2).setIn rfl 6 _);rw [←hw3];clear hw3 e6 y;have HIN:=qq (Ja.inf ({V with es:=t}:Ja));have HON:=qq (Ja.one ({V with es:=t}:Ja));have HSZ:=qq (show (Z48:Array Value).size=({V with es:=t}:Ja).cells.size from rfl)
  go_wp2_with (first
   |(with_reducible refine Jm rfl 48 (.tmp 3) rfl w.heap.size ({V with es:=t}:Ja).cells rfl 48 _ HB3.out Tryz.underlying48 rfl HIN.out ?_)
   |(with_reducible refine Jk rfl 48 (.tmp 6) (.tmp 38) rfl (w.heap.size+1+1) ({V with es:=t}:Ja).cells rfl rfl 48 Z48 HR3.out HIN.out HSZ.out HON.out ?_
     intro w9 hb9 hu9;have HB9:=qq hb9;have HU9:=qq hu9
     clear hb9 hu9)
   |fail)
  refine ret_blk rfl (w.heap.size+1+1) 48 ({V with es:=t}:Ja).cells _ rfl HB9.out Tryz.underlying48 rfl HIN.out rfl ?_;have hf9:Fr N w3 w9:=HU9.out.fr (by rintro k rfl;exact HR3.out.mutb (Nat.le_trans HNN.out (by omega)) rfl);have hf:Fr N w2 w9:=(U3.out.fr (by rintro k rfl;exact HB2.out.mutb HNN.out rfl)).trans hf9;have hv:=HV.out.fr ((HUA.out.no U2.out).fr0.trans hf);rw [HX.out];exact ⟨{V with es:=t},rfl,⟨hv.err,hv.n,hv.m,hv.flag,hv.atT,hv.atI,HT.out.fr hf,hv.sn⟩,rfl,rfl,rfl,rfl,((HUA.out.no U2.out).trans U3.out (by rintro k rfl;exact .inr (Nat.le_refl _))).trans HU9.out (by rintro k rfl;exact .inr (by omega))⟩
 by_cases n9:kd=9
 ·subst n9;have HX:=qq (show g.limA c A= {A with es:=A.es.take (lim A.es (c.c))} from by unfold LgL.limA;rw [if_pos (.inr hkc)]);have HL:=qq (HLM.out (c.c) (HC.out.c0) (HC.out.c1));clear n8 hkc hsc;go_wp2_with fail
  refine HL.out.mono ?_;rintro r w2 ⟨t,rfl,ht,u2⟩;have HT:=qq ht;have U2:=qq u2;have HB2:=qq (HP3.out.upd u2 (fun h=>h));have HR2:=qq (HP6.out.upd u2 (fun h=>h));clear ht u2;have e6:w2.cell? ⟨w.heap.size,6,none⟩=some V.es.v:=HB2.out.cell 6;have y:=HB2.out.frozen;go_upto_region 10 with fail
  obtain ⟨w3,hw3⟩:∃W,W=w2.setCell ⟨w.heap.size,6,none⟩ t.v:=⟨_,rfl⟩;have HB3:=qq (show Blk w3 w.heap.size 48 ({V with es:=t}:Ja).cells by rw [hw3];exact HB2.out.set_ 6 _);have HR3:=qq (show Blk w3 (w.heap.size+1+1) 48 Z48 by rw [hw3];exact HR2.out.far (by simp only;omega) _);have U3:=qq (show Upd (fun k=>k=w.heap.size) w2 w3 by rw [hw3];exact (Upd.refl (fun k=>k=w.heap.size) w2).setIn rfl 6 _);rw [←hw3];clear hw3 e6 y;have HIN:=qq (Ja.inf ({V with es:=t}:Ja));have HON:=qq (Ja.one ({V with es:=t}:Ja));have HSZ:=qq (show (Z48:Array Value).size=({V with es:=t}:Ja).cells.size from rfl)
  go_wp2_with (first
   |(with_reducible refine Jm rfl 48 (.tmp 3) rfl w.heap.size ({V with es:=t}:Ja).cells rfl 48 _ HB3.out Tryz.underlying48 rfl HIN.out ?_)
   |(with_reducible refine Jk rfl 48 (.tmp 6) (.tmp 38) rfl (w.heap.size+1+1) ({V with es:=t}:Ja).cells rfl rfl 48 Z48 HR3.out HIN.out HSZ.out HON.out ?_
     intro w9 hb9 hu9;have HB9:=qq hb9;have HU9:=qq hu9
     clear hb9 hu9)
   |fail)
  refine ret_blk rfl (w.heap.size+1+1) 48 ({V with es:=t}:Ja).cells _ rfl HB9.out Tryz.underlying48 rfl HIN.out rfl ?_;have hf9:Fr N w3 w9:=HU9.out.fr (by rintro k rfl;exact HR3.out.mutb (Nat.le_trans HNN.out (by omega)) rfl);have hf:Fr N w2 w9:=(U3.out.fr (by rintro k rfl;exact HB2.out.mutb HNN.out rfl)).trans hf9;have hv:=HV.out.fr ((HUA.out.no U2.out).fr0.trans hf);rw [HX.out];exact ⟨{V with es:=t},rfl,⟨hv.err,hv.n,hv.m,hv.flag,hv.atT,hv.atI,HT.out.fr hf,hv.sn⟩,rfl,rfl,rfl,rfl,((HUA.out.no U2.out).trans U3.out (by rintro k rfl;exact .inr (Nat.le_refl _))).trans HU9.out (by rintro k rfl;exact .inr (by omega))⟩
 by_cases n15:kd=15
 ·subst n15;have HX:=qq (show g.limA c A= {A with es:=A.es.take (lim A.es (g.size - min g.size g.usg))} from by unfold LgL.limA;rw [if_neg (by omega),if_pos hkc]);have HL:=qq (HLM.out (g.size - min g.size g.usg) (HL0.out) (HL1.out));clear n8 n9 hkc hsc;go_wp2_with fail
  refine HL.out.mono ?_;rintro r w2 ⟨t,rfl,ht,u2⟩;have HT:=qq ht;have U2:=qq u2;have HB2:=qq (HP3.out.upd u2 (fun h=>h));have HR2:=qq (HP6.out.upd u2 (fun h=>h));clear ht u2;have e6:w2.cell? ⟨w.heap.size,6,none⟩=some V.es.v:=HB2.out.cell 6;have y:=HB2.out.frozen;go_upto_region 10 with fail
  obtain ⟨w3,hw3⟩:∃W,W=w2.setCell ⟨w.heap.size,6,none⟩ t.v:=⟨_,rfl⟩;have HB3:=qq (show Blk w3 w.heap.size 48 ({V with es:=t}:Ja).cells by rw [hw3];exact HB2.out.set_ 6 _);have HR3:=qq (show Blk w3 (w.heap.size+1+1) 48 Z48 by rw [hw3];exact HR2.out.far (by simp only;omega) _);have U3:=qq (show Upd (fun k=>k=w.heap.size) w2 w3 by rw [hw3];exact (Upd.refl (fun k=>k=w.heap.size) w2).setIn rfl 6 _);rw [←hw3];clear hw3 e6 y;have HIN:=qq (Ja.inf ({V with es:=t}:Ja));have HON:=qq (Ja.one ({V with es:=t}:Ja));have HSZ:=qq (show (Z48:Array Value).size=({V with es:=t}:Ja).cells.size from rfl)
  go_wp2_with (first
   |(with_reducible refine Jm rfl 48 (.tmp 3) rfl w.heap.size ({V with es:=t}:Ja).cells rfl 48 _ HB3.out Tryz.underlying48 rfl HIN.out ?_)
   |(with_reducible refine Jk rfl 48 (.tmp 6) (.tmp 38) rfl (w.heap.size+1+1) ({V with es:=t}:Ja).cells rfl rfl 48 Z48 HR3.out HIN.out HSZ.out HON.out ?_
     intro w9 hb9 hu9;have HB9:=qq hb9;have HU9:=qq hu9
     clear hb9 hu9)
   |fail)
  refine ret_blk rfl (w.heap.size+1+1) 48 ({V with es:=t}:Ja).cells _ rfl HB9.out Tryz.underlying48 rfl HIN.out rfl ?_;have hf9:Fr N w3 w9:=HU9.out.fr (by rintro k rfl;exact HR3.out.mutb (Nat.le_trans HNN.out (by omega)) rfl);have hf:Fr N w2 w9:=(U3.out.fr (by rintro k rfl;exact HB2.out.mutb HNN.out rfl)).trans hf9;have hv:=HV.out.fr ((HUA.out.no U2.out).fr0.trans hf);rw [HX.out];exact ⟨{V with es:=t},rfl,⟨hv.err,hv.n,hv.m,hv.flag,hv.atT,hv.atI,HT.out.fr hf,hv.sn⟩,rfl,rfl,rfl,rfl,((HUA.out.no U2.out).trans U3.out (by rintro k rfl;exact .inr (Nat.le_refl _))).trans HU9.out (by rintro k rfl;exact .inr (by omega))⟩
 by_cases n34:kd=34
 ·subst n34;by_cases n5:ks=5
  ·subst n5;have HX:=qq (show g.limA c A= {A with es:=A.es.take (lim A.es (c.st.c))} from by unfold LgL.limA;rw [if_neg (by omega),if_neg (by omega),if_pos ⟨hkc,hsc⟩]);have HL:=qq (HLM.out (c.st.c) (HC.out.st.c0) (HC.out.st.c1));clear n8 n9 n15 hkc hsc;go_wp2_with fail
   refine HL.out.mono ?_;rintro r w2 ⟨t,rfl,ht,u2⟩;have HT:=qq ht;have U2:=qq u2;have HB2:=qq (HP3.out.upd u2 (fun h=>h));have HR2:=qq (HP6.out.upd u2 (fun h=>h));clear ht u2;have e6:w2.cell? ⟨w.heap.size,6,none⟩=some V.es.v:=HB2.out.cell 6;have y:=HB2.out.frozen;go_upto_region 10 with fail
   obtain ⟨w3,hw3⟩:∃W,W=w2.setCell ⟨w.heap.size,6,none⟩ t.v:=⟨_,rfl⟩;have HB3:=qq (show Blk w3 w.heap.size 48 ({V with es:=t}:Ja).cells by rw [hw3];exact HB2.out.set_ 6 _);have HR3:=qq (show Blk w3 (w.heap.size+1+1) 48 Z48 by rw [hw3];exact HR2.out.far (by simp only;omega) _);have U3:=qq (show Upd (fun k=>k=w.heap.size) w2 w3 by rw [hw3];exact (Upd.refl (fun k=>k=w.heap.size) w2).setIn rfl 6 _);rw [←hw3];clear hw3 e6 y;have HIN:=qq (Ja.inf ({V with es:=t}:Ja));have HON:=qq (Ja.one ({V with es:=t}:Ja));have HSZ:=qq (show (Z48:Array Value).size=({V with es:=t}:Ja).cells.size from rfl)
   go_wp2_with (first
    |(with_reducible refine Jm rfl 48 (.tmp 3) rfl w.heap.size ({V with es:=t}:Ja).cells rfl 48 _ HB3.out Tryz.underlying48 rfl HIN.out ?_)
    |(with_reducible refine Jk rfl 48 (.tmp 6) (.tmp 38) rfl (w.heap.size+1+1) ({V with es:=t}:Ja).cells rfl rfl 48 Z48 HR3.out HIN.out HSZ.out HON.out ?_
      intro w9 hb9 hu9;have HB9:=qq hb9;have HU9:=qq hu9
      clear hb9 hu9)
    |fail)
   refine ret_blk rfl (w.heap.size+1+1) 48 ({V with es:=t}:Ja).cells _ rfl HB9.out Tryz.underlying48 rfl HIN.out rfl ?_;have hf9:Fr N w3 w9:=HU9.out.fr (by rintro k rfl;exact HR3.out.mutb (Nat.le_trans HNN.out (by omega)) rfl);have hf:Fr N w2 w9:=(U3.out.fr (by rintro k rfl;exact HB2.out.mutb HNN.out rfl)).trans hf9;have hv:=HV.out.fr ((HUA.out.no U2.out).fr0.trans hf);rw [HX.out];exact ⟨{V with es:=t},rfl,⟨hv.err,hv.n,hv.m,hv.flag,hv.atT,hv.atI,HT.out.fr hf,hv.sn⟩,rfl,rfl,rfl,rfl,((HUA.out.no U2.out).trans U3.out (by rintro k rfl;exact .inr (Nat.le_refl _))).trans HU9.out (by rintro k rfl;exact .inr (by omega))⟩
  ·have q5:(ks==5)=false:=beq_eq_false_iff_ne.2 n5;have HX:=qq (show g.limA c A=A from by unfold LgL.limA;rw [if_neg (by omega),if_neg (by omega),if_neg (by omega)]);clear n8 n9 n15 n5 hkc hsc;have HB3:=qq HP3.out;have HR3:=qq HP6.out;obtain ⟨w3,hw3⟩:∃W,W=wa:=⟨_,rfl⟩;rw [←hw3] at HB3 HR3;go_upto_region 10 with fail
   rw [←hw3];have HW3:=qq hw3;clear hw3 p0 p3 p18 p21 e6;have HIN:=qq (Ja.inf V);have HON:=qq (Ja.one V);have HSZ:=qq (show (Z48:Array Value).size=V.cells.size from rfl)
   go_wp2_with (first
    |(with_reducible refine Jm rfl 48 (.tmp 3) rfl w.heap.size V.cells rfl 48 _ HB3.out Tryz.underlying48 rfl HIN.out ?_)
    |(with_reducible refine Jk rfl 48 (.tmp 6) (.tmp 38) rfl (w.heap.size+1+1) V.cells rfl rfl 48 Z48 HR3.out HIN.out HSZ.out HON.out ?_
      intro w9 hb9 hu9;have HB9:=qq hb9;have HU9:=qq hu9
      clear hb9 hu9)
    |fail)
   refine ret_blk rfl (w.heap.size+1+1) 48 V.cells _ rfl HB9.out Tryz.underlying48 rfl HIN.out rfl ?_;have hf9:Fr N w3 w9:=HU9.out.fr (by rintro k rfl;exact HR3.out.mutb (Nat.le_trans HNN.out (by omega)) rfl);have hv:=HV.out.fr ((HUA.out.fr0 (N:=N)).trans (HW3.out ▸hf9));rw [HX.out];exact ⟨V,rfl,hv,rfl,rfl,rfl,rfl,(HW3.out ▸HUA.out).trans HU9.out (by rintro k rfl;exact .inr (by omega))⟩
 have q8:(kd==8)=false:=beq_eq_false_iff_ne.2 n8;have q9:(kd==9)=false:=beq_eq_false_iff_ne.2 n9;have q15:(kd==15)=false:=beq_eq_false_iff_ne.2 n15;have q34:(kd==34)=false:=beq_eq_false_iff_ne.2 n34;have HX:=qq (show g.limA c A=A from by unfold LgL.limA;rw [if_neg (by omega),if_neg (by omega),if_neg (by omega)]);clear n8 n9 n15 n34 hkc hsc;have HB3:=qq HP3.out;have HR3:=qq HP6.out;obtain ⟨w3,hw3⟩:∃W,W=wa:=⟨_,rfl⟩;rw [←hw3] at HB3 HR3;go_upto_region 10 with fail
 rw [←hw3];have HW3:=qq hw3;clear hw3 p0 p3 p18 p21 e6;have HIN:=qq (Ja.inf V);have HON:=qq (Ja.one V);have HSZ:=qq (show (Z48:Array Value).size=V.cells.size from rfl)
 go_wp2_with (first
  |(with_reducible refine Jm rfl 48 (.tmp 3) rfl w.heap.size V.cells rfl 48 _ HB3.out Tryz.underlying48 rfl HIN.out ?_)
  |(with_reducible refine Jk rfl 48 (.tmp 6) (.tmp 38) rfl (w.heap.size+1+1) V.cells rfl rfl 48 Z48 HR3.out HIN.out HSZ.out HON.out ?_
    intro w9 hb9 hu9;have HB9:=qq hb9;have HU9:=qq hu9
    clear hb9 hu9)
  |fail)
 refine ret_blk rfl (w.heap.size+1+1) 48 V.cells _ rfl HB9.out Tryz.underlying48 rfl HIN.out rfl ?_;have hf9:Fr N w3 w9:=HU9.out.fr (by rintro k rfl;exact HR3.out.mutb (Nat.le_trans HNN.out (by omega)) rfl);have hv:=HV.out.fr ((HUA.out.fr0 (N:=N)).trans (HW3.out ▸hf9));rw [HX.out];exact ⟨V,rfl,hv,rfl,rfl,rfl,rfl,(HW3.out ▸HUA.out).trans HU9.out (by rintro k rfl;exact .inr (by omega))⟩
end
end Go.Proofs.YtmagnkjodjmojaaGreat
