/-
  What the rows share: the wrap of a row that lists variables, the world's shape kept.
-/
import Derived.Test.Qxb6601124aDoorRows
import Derived.WalkKit
import Derived.ProofKit
import Derived.OpenShut
import Derived.Lay
import Derived.Shelf.Vars
namespace Go.Proofs.Qxb6601124aDoor
open Go.ChangeShapes Go.WideShapes Go.ChangeAt Go.RowKit

theorem own : ownKnob Tryd.prog.godebug = none := by kernel_rfl

/-- The wrap of a row that lists variables, the world's shape kept. -/
theorem wrap {H : Type} {enc : TypeId × Value → H} {C : Checked} {os : Os} {f : FuncId} {fn : Func} {s : ChangeSpec} {X : World → Array Value → Prop}
    (own : ownKnob C.prog.godebug = none) (started : os.Started) (noInit : C.prog.inits.idxOf? f = none) (hfn : C.prog.funcs[f]? = some fn)
    (witness : ∃ (w : World) (tape : Tape) (i : Input), w.os = os ∧ (w.forCall tape i).Shaped C.prog ∧ i.vars = [] ∧ Input.okWide C.prog (w.forCall tape i) .any w.heap.size f i ∧
      ((s.pre enc C.prog fn [] false (w.forCall tape i).memory i.args ∧ X (w.forCall tape i).memory i.args) ∧ sizedMet enc C.prog fn (OpenSpec.ofChange s) false (w.forCall tape i).memory i.args) ∧ (({} : Assume)).holds C.prog (lone (Frame.enter C.prog f i.args .normal) [] (w.forCall tape i)))
    (contract : ∀ (W : World) (base : Nat) (args : Array Value) (ds gs : List (DataW H)) (before : List MemPlace),
      (∀ (j : Nat) t v, fn.params[j]? = some t → args[j]? = some v → Value.okWide C.prog W .any base t v) →
      DataW.Whole enc C.prog fn.params.toList s.vars false W args.toList ds gs before → W.ShapedOpen C.prog →
      Calls C.prog f args W fun e W' => ∃ v, e = .returned v ∧ s.post enc C.prog fn false true false false W args v W') :
    ReturnsInHanded {} C os f .any (fun w args => (s.pre enc C.prog fn [] false w args ∧ X w args) ∧ sizedMet enc C.prog fn (OpenSpec.ofChange s) false w args) (s.post enc C.prog fn false true false false) := by
  refine returnsInHanded_of_calls own started noInit witness ?_
  intro w tape i _ hsh _ hok hpre _
  obtain ⟨_, _, _, fn', hfn', _, _, _, _, hval⟩ := hok
  obtain rfl : fn' = fn := Option.some.inj (hfn'.symm.trans hfn)
  obtain ⟨⟨⟨ds, gs, before, hw, _⟩, _⟩, _⟩ := hpre
  refine (contract (w.forCall tape i) w.heap.size i.args ds gs before hval (DataW.Whole.of_heap (w' := w.forCall tape i) (by rfl) hw) hsh).mono fun e W' h => ?_
  obtain ⟨v, rfl, hp⟩ := h
  exact ChangeSpec.post_blind hp

end Go.Proofs.Qxb6601124aDoor
