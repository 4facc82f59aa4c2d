/- What the claim's theorem 'proved' rests on: Tk, Laws. -/
import Derived.WalkKit
import Derived.Deep.RegionHeld3
import Derived.WideLaws
import Derived.Laws.EntriesVeiled
import Derived.WalkLawsBesides
import Derived.WalkSpells
set_option linter.unusedVariables false
set_option linter.unusedSimpArgs false
set_option maxRecDepth 100000
set_option maxHeartbeats 10000000
namespace Go.Proofs.YtmghkmhgpmcoaaaGreat
section
open Go Go.RowKit
section
variable {P:Program} {ops:Array Oper} {Q:Exit→Act→World→Prop} {md:Region.Mode} {S:World→Prop}
theorem tk (i:Nat){oi:Oper}{v:Value}{fuel:Nat}{listed:Array Bool}{a:Act}{w:World}
  (h:wpAnyH P md ops Q S fuel (listed.setIfInBounds i true) (a.put oi.dst v) w)
  (hi:ops[i]?=some oi:=by rfl) (hs:Region.noSelect ops=true:=by kernel_rfl) (hf:Region.free md ops listed i=true:=by kernel_rfl) (hr:(Region.ready md ops listed).contains i=true:=by kernel_rfl)
  (hQ:∀c a w,Q (.panic c) (a.put oi.dst v) w→Q (.panic c) a w:=by exact fun _ _ _ h=>h)
  (hw:Region.wanted oi (yielded ops a.tmps)=true:=by rfl) (hy:∀w,S w→(execOp a.eval oi).run P w= .ok (.value v) w:=by((intro w hSw;(try dsimp only at hSw);go_simp);try(with_reducible rfl)))
  (hS:S w:=by assumption):wpAnyH P md ops Q S (fuel+1) listed a w:=wpAnyH_take hi hs hf hr hQ (Or.inl ⟨hw,hy⟩) hS h
theorem tg (i:Nat){oi:Oper}{v:Value}{fuel:Nat}{listed:Array Bool}{a:Act}{w:World}
  (h:wpAnyH P md ops Q S fuel (listed.setIfInBounds i true) (a.put oi.dst v) w)
  (hi:ops[i]?=some oi:=by rfl) (hs:Region.noSelect ops=true:=by kernel_rfl) (hf:Region.free md ops listed i=true:=by kernel_rfl) (hr:(Region.ready md ops listed).contains i=true:=by kernel_rfl)
  (hQ:∀c a w,Q (.panic c) (a.put oi.dst v) w→Q (.panic c) a w:=by exact fun _ _ _ h=>h)
  (hw:Region.wanted oi (yielded ops a.tmps)=true:=by kernel_rfl) (hy:∀w,S w→(execOp a.eval oi).run P w= .ok (.value v) w:=by((intro w hSw;(try dsimp only at hSw);go_simp);try(with_reducible rfl)))
  (hS:S w:=by assumption):wpAnyH P md ops Q S (fuel+1) listed a w:=wpAnyH_take hi hs hf hr hQ (Or.inl ⟨hw,hy⟩) hS h
end
theorem tka {α:Type _}(l:List α)(i:Nat)(a:α):l.toArray.setIfInBounds i a=(l.set i a).toArray:=List.setIfInBounds_toArray l i a
theorem tkb {α:Type _}{x a:α}{l:List α}:(x::l).set 0 a=a::l:=List.set_cons_zero
theorem tkc {α:Type _}{x a:α}{l:List α}{n:Nat}:(x::l).set (n+1) a=x::l.set n a:=List.set_cons_succ
end
section
section
variable (P:Program) (w:World) (a:Addr) (m:Mode)
@[go_sem] theorem run_store_float (k:FloatKind) (b:Nat):(store a (.float k b) m).run P w=stored P w a (.float k b) m:=run_store P w a _ m rfl
end
end
end Go.Proofs.YtmghkmhgpmcoaaaGreat
