/- Small helpers of the proof of FnLog. -/
import Derived.WalkKit
import Derived.OrdersHeld
import Derived.Deep.RegionHeld
namespace Go.Proofs.YtmagnkjodjmojaaGreat
open Go.RowKit
abbrev Z69 (k x:Int):Array Value:=#[.int .i64 k,.int .u64 x,.slice none 0 0,.string ⟨#[]⟩,.int .u64 0,.int .u64 0,.slice none 0 0,.slice none 0 0,.slice none 0 0,.slice none 0 0,.bool false,.int .u64 0,.int .u64 0,.int .u64 0,.bool false,.slice none 0 0,.slice none 0 0,.slice none 0 0,.slice none 0 0,.bool false,.bool false]
abbrev Z48:Array Value:=#[.int .i64 0,.int .u64 0,.int .u64 0,.bool false,.int .u64 0,.int .u64 0,.slice none 0 0,.slice none 0 0,.string ⟨#[]⟩,.int .u64 0,.int .u64 0,.slice none 0 0,.slice none 0 0,.slice none 0 0,.slice none 0 0,.bool false,.int .u64 0,.int .u64 0,.int .u64 0,.bool false,.bool false]
abbrev Z43:Array Value:=#[.int .i64 0,.int .u64 0,.int .u64 0,.int .u64 0,.slice none 0 0,.string ⟨#[]⟩,.int .u64 0,.int .u64 0,.slice none 0 0,.slice none 0 0,.slice none 0 0,.slice none 0 0,.bool false,.int .u64 0,.int .u64 0,.int .u64 0]
abbrev Z45:Array Value:=#[.int .i64 0,.int .u64 0,.int .u64 0,.int .u64 0,.bool false,.int .u64 0,.int .u64 0,.int .u64 0,.int .u64 0,.slice none 0 0,.string ⟨#[]⟩,.int .u64 0,.int .u64 0,.slice none 0 0,.slice none 0 0,.slice none 0 0,.slice none 0 0,.bool false,.int .i64 0,.int .u64 0,.int .u64 0,.int .u64 0,.slice none 0 0,.string ⟨#[]⟩,.int .u64 0,.int .u64 0,.slice none 0 0,.slice none 0 0,.slice none 0 0,.slice none 0 0,.bool false,.int .u64 0,.int .u64 0,.int .u64 0]
theorem ac {P:Program} {ops:Array Oper} {Q:Exit → Act → World → Prop} {md:Region.Mode} {S:World → Prop} {fuel:Nat} {listed:Array Bool} {a:Act} {w:World} {i:Nat} {o:Oper} (ho:ops[i]?=some o)
 (h:∀K':Act → World → Prop,Shut (∀a w,S w → (S w → wpAnyH P md ops Q S fuel (listed.setIfInBounds i true) a w) → K' a w) → if Region.wanted o (yielded ops a.tmps)=true then Oper.wp P o a w K' Q else K' (a.put o.dst undef) w):
 AllReadyH P md ops Q S fuel listed a w [i]:=AllReadyH.cons ho h AllReadyH.nil
abbrev pp (b:Nat):Value:=.pointer (some ⟨b,0,none⟩)
theorem qq {p:Prop} (h:p):Hid p:=h

theorem NR:(∀(a:Act) (v:Value),a.put none v=a)∧(∀(a:Act) (d:Tmp) (v:Value),a.put (some d) v={a with tmps:=a.tmps.setIfInBounds d v})∧(∀{α:Type} (l:List α) (i:Nat) (x:α),l.toArray.setIfInBounds i x=(l.set i x).toArray)∧(∀{α:Type} (b:α) (l:List α) (x:α),(b::l).set 0 x=x::l)∧(∀{α:Type} (b:α) (l:List α) (i:Nat) (x:α),(b::l).set (i+1) x=b::l.set i x):=
 ⟨fun _ _=>rfl,fun _ _ _=>rfl,fun l i x=>List.setIfInBounds_toArray l i x,fun _ _ _=>rfl,fun _ _ _ _=>rfl⟩
theorem tk {P:Program} {ops:Array Oper} {Q:Exit → Act → World → Prop} {md:Region.Mode} {S:World → Prop} {oi:Oper} {fuel:Nat} {listed:Array Bool} {a:Act} {w:World} (i:Nat) (hi:ops[i]?=some oi) (v:Value) (hy:∀w,S w → (execOp a.eval oi).run P w=.ok (.value v) w)
 (h:wpAnyH P md ops Q S fuel (listed.setIfInBounds i true) (a.put oi.dst v) w) (hw:Region.wanted oi (yielded ops a.tmps)=true:=by rfl) (hs:Region.noSelect ops=true:=by kernel_rfl) (hf:Region.free md ops listed i=true:=by kernel_rfl) (hr:(Region.ready md ops listed).contains i=true:=by kernel_rfl)
 (hQ:∀c a w,Q (.panic c) (a.put oi.dst v) w → Q (.panic c) a w:=by exact fun _ _ _ h=>h) (hS:S w:=by assumption):wpAnyH P md ops Q S (fuel+1) listed a w:=wpAnyH_take hi hs hf hr hQ (Or.inl ⟨hw,hy⟩) hS h
theorem td {P:Program} {ops:Array Oper} {Q:Exit → Act → World → Prop} {md:Region.Mode} {S:World → Prop} {op t p af g} {fuel:Nat} {listed:Array Bool} {a:Act} {w:World} (i:Nat) (d:Tmp) (hi:ops[i]?=some ⟨some d,op,t,p,af,g⟩) (v:Value) (hy:∀w,S w → (execOp a.eval ⟨some d,op,t,p,af,g⟩).run P w=.ok (.value v) w)
 (h:wpAnyH P md ops Q S fuel (listed.setIfInBounds i true) (a.put (some d) v) w) (hw:Region.wanted ⟨some d,op,t,p,af,g⟩ (yielded ops a.tmps)=true:=by rfl) (hs:Region.noSelect ops=true:=by kernel_rfl) (hf:Region.free md ops listed i=true:=by kernel_rfl) (hr:(Region.ready md ops listed).contains i=true:=by kernel_rfl)
 (hQ:∀c a w,Q (.panic c) (a.put (some d) v) w → Q (.panic c) a w:=by exact fun _ _ _ h=>h) (hS:S w:=by assumption):wpAnyH P md ops Q S (fuel+1) listed a w:=wpAnyH_take hi hs hf hr hQ (Or.inl ⟨hw,hy⟩) hS h
end Go.Proofs.YtmagnkjodjmojaaGreat
