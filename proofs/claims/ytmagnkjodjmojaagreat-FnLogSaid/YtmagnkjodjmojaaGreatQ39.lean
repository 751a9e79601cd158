/- A part of the proof of FnLog: laws and walks, with their conditions written at each. -/
import Derived.Test.YtmagnkjodjmojaaGreatQ36
import Derived.Test.YtmagnkjodjmojaaGreatQ37
import Derived.Test.YtmagnkjodjmojaaGreatQ38
set_option maxRecDepth 20000
set_option maxHeartbeats 4000000
set_option linter.all false
namespace Go.Proofs.YtmagnkjodjmojaaGreat
open Go.RowKit
section
variable {N:Nat} {w w' w0 wa W W':World} {S:Nat→Prop} {A A' A2:StK} {s:StL} {B B' B2:TlK} {u:TlL} {l p ab:Nat} {g g' g2:LgL} {V:Ja}
set_option maxHeartbeats 16000000 in
theorem spDo (h:Ka N w l A B g) (hp:g.Pre) (ho:g.Ok) (hln:g.u.es.length+60≤20000) {v:Jc} {c:LCall} (hv:v.Rd N w c) (hc:c.Ok):
  Calls Tryz.prog 9 #[.pointer (some ⟨l,0,none⟩),.agg v.cells] w fun e w'=>DoR N w l A B (LDo g c) e w':=by
 obtain ⟨wa,kd,E⟩:=doE h hp ho hln hv hc;clear h hp ho hln hv hc;by_cases n34:kd=34∧¬(farI≤c.a∨farI≤c.b∨farI≤c.atI)
 ·exact spDo34 E n34.2 n34.1
 by_cases n14:(kd=14∨kd=26)∧¬(farI≤c.a∨farI≤c.b∨farI≤c.atI)
 ·exact spDo14 E n14.2 n14.1
 have HNN:=qq (And.intro n34 n14);clear n34 n14;obtain ⟨hwa,HLT,HNW,HNB,HUA,HPB,HRB,HAB,HSA,HVA,HC,HP,HO,HS,HD,p0,p1,p2,p6,HK,k1,k0,HLN⟩:=E;by_cases hfar:farI≤c.a∨farI≤c.b∨farI≤c.atI
 ·have HX:=qq (show LDo g c=none by unfold LDo;rw [if_pos hfar]);have HSZ:=qq (show Ja.nil.cells.size=Ja.nil.cells.size from rfl);have HIN:=qq Ja.nil.inf;have HON:=qq Ja.nil.one;have HFN:=qq fun (n:Nat)=>qq (show Upd (fun k=>spS l A B k∨k=(w.heap.size+1+1)) w (wa.drewN n) from (HUA.out.drewN n).ofNo);unfold farI at hfar;by_cases ha:c.a<4611686018427387904
  ·by_cases hb:c.b<4611686018427387904
   ·have hi:¬c.atI<4611686018427387904:=by omega
    clear hfar;go_enter Tryz.func9,Tryz.ntmps9
    go_wp2_with (first
     |(with_reducible refine Jm rfl 48 (.tmp 6) rfl (w.heap.size+1+1) Ja.nil.cells rfl 48 _ HAB.out Tryz.underlying48 rfl HIN.out ?_)
     |(with_reducible refine Jk rfl 48 (.tmp 4) (.tmp 26) rfl (w.heap.size+1) Ja.nil.cells rfl rfl 48 Ja.nil.cells HRB.out HIN.out HSZ.out HON.out ?_
       intro w9 hb9 hu9;have HB9:=qq hb9;have HU9:=qq hu9
       clear hb9 hu9)
     |fail)
    refine Jw rfl (w.heap.size+1) 48 Ja.nil.cells _ rfl HB9.out Tryz.underlying48 rfl HIN.out rfl ?_;exact doFin HLT.out HNW.out HUA.out.ofNo rfl rfl HSA.out HRB.out HU9.out (fun _=>rfl) fun An g1 he=>by rw [HX.out] at he;cases he
   ·clear hfar;go_enter Tryz.func9,Tryz.ntmps9
    go_wp2_with (first
     |(with_reducible refine Jm rfl 48 (.tmp 6) rfl (w.heap.size+1+1) Ja.nil.cells rfl 48 _ HAB.out Tryz.underlying48 rfl HIN.out ?_)
     |(with_reducible refine Jk rfl 48 (.tmp 4) (.tmp 26) rfl (w.heap.size+1) Ja.nil.cells rfl rfl 48 Ja.nil.cells HRB.out HIN.out HSZ.out HON.out ?_
       intro w9 hb9 hu9;have HB9:=qq hb9;have HU9:=qq hu9
       clear hb9 hu9)
     |fail)
    refine Jw rfl (w.heap.size+1) 48 Ja.nil.cells _ rfl HB9.out Tryz.underlying48 rfl HIN.out rfl ?_;exact doFin HLT.out HNW.out HUA.out.ofNo rfl rfl HSA.out HRB.out HU9.out (fun _=>rfl) fun An g1 he=>by rw [HX.out] at he;cases he
  ·clear hfar;go_enter Tryz.func9,Tryz.ntmps9
   go_wp2_with (first
    |(with_reducible refine Jm rfl 48 (.tmp 6) rfl (w.heap.size+1+1) Ja.nil.cells rfl 48 _ HAB.out Tryz.underlying48 rfl HIN.out ?_)
    |(with_reducible refine Jk rfl 48 (.tmp 4) (.tmp 26) rfl (w.heap.size+1) Ja.nil.cells rfl rfl 48 Ja.nil.cells HRB.out HIN.out HSZ.out HON.out ?_
      intro w9 hb9 hu9;have HB9:=qq hb9;have HU9:=qq hu9
      clear hb9 hu9)
    |fail)
   refine Jw rfl (w.heap.size+1) 48 Ja.nil.cells _ rfl HB9.out Tryz.underlying48 rfl HIN.out rfl ?_;exact doFin HLT.out HNW.out HUA.out.ofNo rfl rfl HSA.out HRB.out HU9.out (fun _=>rfl) fun An g1 he=>by rw [HX.out] at he;cases he
 ·have hfa:c.a<4611686018427387904:=by unfold farI at hfar;omega
  have hfb:c.b<4611686018427387904:=by unfold farI at hfar;omega
  have hfi:c.atI<4611686018427387904:=by unfold farI at hfar;omega
  have HF:=qq hfar;clear hfar;go_enter Tryz.func9,Tryz.ntmps9;go_upto_block 0 with fail
  clear p0;go_cut [7] (fun s7 W=>DoC N wa l A B (w.heap.size+1+1) (LDo g c) s7 W)
  case first=>
   by_cases n1:kd=1
   ·subst n1;have HX:=qq (show LDo g c=((g.append c.es).map fun g'=>({LAns.none with n:=g'.last},g')) by have:=HF.out;unfold LDo;rw [if_neg this,if_pos HK.out]);have p9:wa.cell? ⟨w.heap.size,9,none⟩=some v.es.v:=HPB.out.cell 9;have HG:=qq (spLgAppend HSA.out HS.out HVA.out.es HC.out.es (Nat.le_trans HC.out.len (by omega)))
    have HP2:=qq (show ((g.append c.es).getD g).Sm from by
     rcases hq:g.append c.es with _|g2
     ·exact HS.out
     ·exact (LgL.append_pre hq HP.out HC.out.es HC.out.len HLN.out).1.isSm)
    go_wp2_with fail
    refine HG.out.mono ?_;rintro r w2 ⟨rfl,⟨B2,hb2,hl2⟩,hu⟩;have HD2:=qq (HD.out.step hl2 hu rfl hb2);clear hl2 hu;have HL:=qq (spLast HD2.out.lg HP2.out.s HP2.out.u).toU;go_wp2_with fail
    refine HL.out.mono ?_;rintro r w3 ⟨rfl,u3⟩;have HD3:=qq (HD2.out.no u3);clear u3;have a1:w3.cell? ⟨(w.heap.size+1+1),1,none⟩=some (.int .u64 0):=HD3.out.an.cell 1;have ya:=HD3.out.an.frozen;go_wp2_with fail
    go_meet
    refine (HD3.out.set HNB.out 1 (.int .u64 ((g.append c.es).getD g).last) {Ja.nil with n:=((g.append c.es).getD g).last} rfl).fin (fun he=>?_) fun An g1 he=>?_
    ·rw [HX.out] at he;rcases hq:g.append c.es with _|g1
     ·rfl
     ·rw [hq] at he;cases he
    ·rw [HX.out] at he;rcases hq:g.append c.es with _|g2
     ·rw [hq] at he;cases he
     ·rw [hq] at he;cases he;exact ⟨rfl,⟨rfl,rfl,rfl,rfl,rfl,rfl,Jg.nil none,SnV.Js _ _⟩,rfl⟩
   by_cases n2:kd=2
   ·subst n2;clear n1;have HX:=qq (show LDo g c=g.maybe c by have:=HF.out;unfold LDo;rw [if_neg this,if_neg (by have:=HK.out;omega),if_pos HK.out]);have HG:=qq (spMaybe HSA.out HP.out HO.out HLN.out HVA.out HC.out HAB.out HNB.out);have HI45:=qq v.inf
    go_wp2_with (first
     |(with_reducible refine Jm rfl 45 (.tmp 3) rfl w.heap.size v.cells rfl 45 _ HPB.out Tryz.underlying45 rfl HI45.out ?_)
     |fail)
    refine HG.out.mono ?_;rintro r w2 ⟨V,bb,A2,B2,g2,rfl,hA2,hB2,hS2,hb2,hu2,h1,h2⟩;have HD2:=qq (show DoS N wa l A B (w.heap.size+1+1) V A2 B2 g2 w2 from ⟨hS2,hb2,hu2,hA2,hB2⟩);have H3:=qq (And.intro h1 h2);clear hS2 hb2 hu2 h1 h2;go_wp2_with fail
    go_meet
    exact HD2.out.fin (fun he=>H3.out.1 (HX.out ▸he)) fun An g1 he=>H3.out.2 An g1 (HX.out ▸he)
   by_cases n13:kd=13
   ·subst n13;clear n1 n2;have HX:=qq (show LDo g c=((g.commit? c.a).map fun g'=>(LAns.none,g')) by have:=HF.out;unfold LDo;rw [if_neg this,if_neg (by have:=HK.out;omega),if_neg (by have:=HK.out;omega),if_pos HK.out]);have HG:=qq (spCommit (n:=c.a) HSA.out HS.out);go_wp2_with fail
    refine HG.out.mono ?_;rintro r w2 ⟨rfl,hl2,hu⟩;have HD2:=qq (HD.out.step hl2 hu rfl rfl);clear hl2 hu;go_wp2_with fail
    go_meet
    refine (HD2.out).fin (fun he=>?_) fun An g1 he=>?_
    ·rw [HX.out] at he;rcases hq:g.commit? c.a with _|g1
     ·rfl
     ·rw [hq] at he;cases he
    ·rw [HX.out] at he;rcases hq:g.commit? c.a with _|g2
     ·rw [hq] at he;cases he
     ·rw [hq] at he;cases he;exact ⟨rfl,Ja.Js _ _,rfl⟩
   have n14:¬kd=14:=fun e=>HNN.out.2 ⟨.inl e,HF.out⟩;by_cases n18:kd=18
   ·subst n18;clear n1 n2 n13 n14
    have HX:=qq (show LDo g c=((g.applyX v.kind v.a v.b v.flag).map fun g'=>(LAns.none,g')) by
     have hf:=HF.out;unfold LDo;rw [if_neg hf,if_neg (by have:=HK.out;omega),if_neg (by have:=HK.out;omega),if_neg (by have:=HK.out;omega),if_neg (by have:=HK.out;omega),if_pos HK.out];unfold LgL.applyX;rw [HVA.out.kind,HVA.out.a,HVA.out.b,HVA.out.flag,if_neg (show ¬farI≤c.b by unfold farI;omega),if_pos HK.out]
     split<;>rfl)
    have HG:=qq (spApply HSA.out HS.out HO.out.u.o1 HO.out.g0 HO.out.g2 (v:=v) (by rw [HVA.out.b];exact HC.out.b0));have HI45:=qq v.inf
    go_wp2_with (first
     |(with_reducible refine Jm rfl 45 (.tmp 3) rfl w.heap.size v.cells rfl 45 _ HPB.out Tryz.underlying45 rfl HI45.out ?_)
     |fail)
    refine HG.out.mono ?_;rintro r w2 ⟨rfl,hl2,hu⟩;have HD2:=qq (HD.out.step hl2 hu rfl rfl);clear hl2 hu;go_wp2_with fail
    go_meet
    refine (HD2.out).fin (fun he=>?_) fun An g1 he=>?_
    ·rw [HX.out] at he;rcases hq:g.applyX v.kind v.a v.b v.flag with _|g1
     ·rfl
     ·rw [hq] at he;cases he
    ·rw [HX.out] at he;rcases hq:g.applyX v.kind v.a v.b v.flag with _|g2
     ·rw [hq] at he;cases he
     ·rw [hq] at he;cases he;exact ⟨rfl,Ja.Js _ _,rfl⟩
   by_cases n19:kd=19
   ·subst n19;clear n1 n2 n13 n14 n18
    have HX:=qq (show LDo g c=((g.applyX v.kind v.a v.b v.flag).map fun g'=>(LAns.none,g')) by
     have hf:=HF.out;unfold LDo;rw [if_neg hf,if_neg (by have:=HK.out;omega),if_neg (by have:=HK.out;omega),if_neg (by have:=HK.out;omega),if_neg (by have:=HK.out;omega),if_neg (by have:=HK.out;omega),if_pos HK.out];unfold LgL.applyX;rw [HVA.out.kind,HVA.out.a,HVA.out.b,HVA.out.flag,if_neg (show ¬farI≤c.b by unfold farI;omega),if_neg (show ¬c.kind=18 by have:=HK.out;omega)]
     split<;>rfl)
    have HG:=qq (spApply HSA.out HS.out HO.out.u.o1 HO.out.g0 HO.out.g2 (v:=v) (by rw [HVA.out.b];exact HC.out.b0));have HI45:=qq v.inf
    go_wp2_with (first
     |(with_reducible refine Jm rfl 45 (.tmp 3) rfl w.heap.size v.cells rfl 45 _ HPB.out Tryz.underlying45 rfl HI45.out ?_)
     |fail)
    refine HG.out.mono ?_;rintro r w2 ⟨rfl,hl2,hu⟩;have HD2:=qq (HD.out.step hl2 hu rfl rfl);clear hl2 hu;go_wp2_with fail
    go_meet
    refine (HD2.out).fin (fun he=>?_) fun An g1 he=>?_
    ·rw [HX.out] at he;rcases hq:g.applyX v.kind v.a v.b v.flag with _|g1
     ·rfl
     ·rw [hq] at he;cases he
    ·rw [HX.out] at he;rcases hq:g.applyX v.kind v.a v.b v.flag with _|g2
     ·rw [hq] at he;cases he
     ·rw [hq] at he;cases he;exact ⟨rfl,Ja.Js _ _,rfl⟩
   by_cases n23:kd=23
   ·subst n23;clear n1 n2 n13 n14 n18 n19;have HX:=qq (show LDo g c=some (LAns.none,g.accept) by have:=HF.out;unfold LDo;rw [if_neg this,if_neg (by have:=HK.out;omega),if_neg (by have:=HK.out;omega),if_neg (by have:=HK.out;omega),if_neg (by have:=HK.out;omega),if_neg (by have:=HK.out;omega),if_neg (by have:=HK.out;omega),if_pos HK.out]);have HG:=qq (spAccept HSA.out.tl HS.out.u);go_wp2_with fail
    refine HG.out.mono ?_;rintro r w2 ⟨rfl,ht,hu⟩;have X2:=HSA.out.of_tl ht rfl hu;have HD2:=qq (HD.out.step X2.1 X2.2 rfl rfl);clear ht hu X2;go_wp2_with fail
    go_meet
    exact (HD2.out).fin (fun he=>by rw [HX.out] at he;cases he) fun An g1 he=>by
     rw [HX.out] at he;cases he;exact ⟨rfl,Ja.Js _ _,rfl⟩
   by_cases n24:kd=24
   ·subst n24;clear n1 n2 n13 n14 n18 n19 n23;have HX:=qq (show LDo g c=some (LAns.none,g.stable c.atT c.atI) by have:=HF.out;unfold LDo;rw [if_neg this,if_neg (by have:=HK.out;omega),if_neg (by have:=HK.out;omega),if_neg (by have:=HK.out;omega),if_neg (by have:=HK.out;omega),if_neg (by have:=HK.out;omega),if_neg (by have:=HK.out;omega),if_neg (by have:=HK.out;omega),if_pos HK.out]);have HG:=qq fun (W:World) (hu:Upd No wa W)=>spStable (t:=c.atT) (HSA.out.no hu).tl HS.out.u HC.out.ai0 (by omega);have p5:wa.cell? ⟨w.heap.size,5,none⟩=some (.int .u64 c.atT):=by rw [←HVA.out.atT];exact HPB.out.cell 5
    go_wp2_with fail
    go_still_tail 6,(by kernel_rfl)
    change wpList _ _ _ _ _ wa.drew;have U0:=qq (show Upd No wa wa.drew from (Upd.refl No wa).drew);generalize wa.drew=w1 at*;go_wp2_with fail
    refine (HG.out _ U0.out).mono ?_;rintro r w2 ⟨rfl,⟨B2,hb2,ht⟩,hu⟩;have X2:=(HSA.out.no U0.out).of_tl ht hb2 hu;have HD2:=qq ((HD.out.no U0.out).step X2.1 X2.2 rfl hb2);clear ht hu X2;go_wp2_with fail
    go_meet
    exact (HD2.out).fin (fun he=>by rw [HX.out] at he;cases he) fun An g1 he=>by
     rw [HX.out] at he;cases he;exact ⟨rfl,Ja.Js _ _,rfl⟩
   by_cases n25:kd=25
   ·subst n25;clear n1 n2 n13 n14 n18 n19 n23 n24;have HX:=qq (show LDo g c=some (LAns.none,g.Jy c.a) by have:=HF.out;unfold LDo;rw [if_neg this,if_neg (by have:=HK.out;omega),if_neg (by have:=HK.out;omega),if_neg (by have:=HK.out;omega),if_neg (by have:=HK.out;omega),if_neg (by have:=HK.out;omega),if_neg (by have:=HK.out;omega),if_neg (by have:=HK.out;omega),if_neg (by have:=HK.out;omega),if_pos HK.out]);have HG:=qq fun (W:World) (hu:Upd No wa W)=>spStableSnap (i:=c.a) (HSA.out.no hu).tl;go_wp2_with fail
    go_still_tail 6,(by kernel_rfl)
    change wpList _ _ _ _ _ wa.drew;have U0:=qq (show Upd No wa wa.drew from (Upd.refl No wa).drew);generalize wa.drew=w1 at*;go_wp2_with fail
    refine (HG.out _ U0.out).mono ?_;rintro r w2 ⟨rfl,⟨B2,hb2,ht⟩,hu⟩;have X2:=(HSA.out.no U0.out).of_tl ht hb2 hu;have HD2:=qq ((HD.out.no U0.out).step X2.1 X2.2 rfl hb2);clear ht hu X2;go_wp2_with fail
    go_meet
    exact (HD2.out).fin (fun he=>by rw [HX.out] at he;cases he) fun An g1 he=>by
     rw [HX.out] at he;cases he;exact ⟨rfl,Ja.Js _ _,rfl⟩
   have n26:¬kd=26:=fun e=>HNN.out.2 ⟨.inr e,HF.out⟩;have n34:¬kd=34:=fun e=>HNN.out.1 ⟨e,HF.out⟩;have HX:=qq (show LDo g c=g.ask c by have:=HF.out;unfold LDo;rw [if_neg this,if_neg (by have:=HK.out;omega),if_neg (by have:=HK.out;omega),if_neg (by have:=HK.out;omega),if_neg (by have:=HK.out;omega),if_neg (by have:=HK.out;omega),if_neg (by have:=HK.out;omega),if_neg (by have:=HK.out;omega),if_neg (by have:=HK.out;omega),if_neg (by have:=HK.out;omega),if_neg (by have:=HK.out;omega),if_neg (by have:=HK.out;omega)]);have q1:(kd==1)=false:=beq_eq_false_iff_ne.2 n1;have q2:(kd==2)=false:=beq_eq_false_iff_ne.2 n2;have q13:(kd==13)=false:=beq_eq_false_iff_ne.2 n13;have q14:(kd==14)=false:=beq_eq_false_iff_ne.2 n14;have q18:(kd==18)=false:=beq_eq_false_iff_ne.2 n18;have q19:(kd==19)=false:=beq_eq_false_iff_ne.2 n19;have q23:(kd==23)=false:=beq_eq_false_iff_ne.2 n23;have q24:(kd==24)=false:=beq_eq_false_iff_ne.2 n24;have q25:(kd==25)=false:=beq_eq_false_iff_ne.2 n25;have q26:(kd==26)=false:=beq_eq_false_iff_ne.2 n26;have q34:(kd==34)=false:=beq_eq_false_iff_ne.2 n34;clear n1 n2 n13 n14 n18 n19 n23 n24 n25 n26 n34;have HG:=qq (spAsk HSA.out HP.out HO.out HVA.out HC.out hfa hfb hfi HAB.out HNB.out);have HI45:=qq v.inf
   go_wp2_with (first
    |(with_reducible refine Jm rfl 45 (.tmp 3) rfl w.heap.size v.cells rfl 45 _ HPB.out Tryz.underlying45 rfl HI45.out ?_)
    |fail)
   refine HG.out.mono ?_;rintro r w2 ⟨V,bb,rfl,hb2,hu2,h1,h2⟩;have HD2:=qq (show DoS N wa l A B (w.heap.size+1+1) V A B g w2 from ⟨HSA.out.at_ab HAB.out HNB.out hu2,hb2,hu2.mono fun k hk=>.inr hk,rfl,rfl⟩);have H3:=qq (And.intro h1 h2);clear hb2 hu2 h1 h2;go_wp2_with fail
   go_meet
   refine HD2.out.fin (fun he=>H3.out.1 (HX.out ▸he)) fun An g1 he=>?_;obtain ⟨h3,h4,h5⟩:=H3.out.2 An g1 (HX.out ▸he);exact ⟨h3,h4,h5.symm⟩
  case rest=>
   obtain ⟨V,bb,A',B',g',rfl,hd,h1,h2⟩:=hcut;have HD:=qq hd;have H1:=qq h1;have H2:=qq h2;obtain ⟨k2,k3,k4,k7,a16,a17,a18,a19⟩:=hd.sees;have ya:=hd.an.frozen;have hla:=hd.lg.blk.ne_ hd.an (by decide);clear hd h1 h2;go_wp2_with fail
   go_region
   obtain ⟨V2,hV2⟩:∃X,X=V.beh g':=⟨_,rfl⟩;have HV2:=qq hV2;obtain ⟨w8,hw8,HB8,HL8,HR8,HUU,HF8⟩:=HD.out.last HLT.out HNB.out HUA.out HRB.out;rw [←hV2] at HB8;rw [←hw8];clear hV2 hw8 k2 k3 k4 k7 a16 a17 a18 a19 ya hla;have HSZ:=qq (show Ja.nil.cells.size=V2.cells.size from rfl);have HIN:=qq V2.inf;have HON:=qq V2.one
   go_wp2_with (first
    |(with_reducible refine Jm rfl 48 (.tmp 6) rfl (w.heap.size+1+1) V2.cells rfl 48 _ HB8.out Tryz.underlying48 rfl HIN.out ?_)
    |(with_reducible refine Jk rfl 48 (.tmp 4) (.tmp 198) rfl (w.heap.size+1) V2.cells rfl rfl 48 Ja.nil.cells HR8.out HIN.out HSZ.out HON.out ?_
      intro w9 hb9 hu9;have HB9:=qq hb9;have HU9:=qq hu9
      clear hb9 hu9)
    |fail)
   refine Jw rfl (w.heap.size+1) 48 V2.cells _ rfl HB9.out Tryz.underlying48 rfl HIN.out rfl ?_;refine doFin HLT.out HNW.out HUU.out HD.out.hA HD.out.hB HL8.out HR8.out HU9.out H1.out fun An g1 he=>?_;obtain ⟨h3,h4,h5⟩:=H2.out An g1 he;exact ⟨h3,⟨V,h5 ▸HV2.out,h4.fr HF8.out⟩,h5⟩
end
end Go.Proofs.YtmagnkjodjmojaaGreat
