/-
  The walk of 'ZZreadDecimal'.
-/
import Derived.Test.Qxb6600799aDoorRead
namespace Go.Proofs.Qxb6600799aDoor
open Go.RowKit Go.Shelf
set_option linter.unusedVariables false

/-- The four values that the two readers hand back. -/
def tupV : Pl.Ans → Value
  | none => .tuple #[.bool false, .string ⟨#[]⟩, .int .i64 0, .bool false]
  | some (n, d, e) => .tuple #[.bool n, .string ⟨d.toArray⟩, .int .i64 e, .bool true]

set_option maxRecDepth 100000 in
set_option maxHeartbeats 1000000 in
theorem zz_core (s : ByteArray) (w : World) (n : Bool) (d : ByteArray) (e : Int) (ok : Bool)
    (c : ∀ W : World, Calls Tryd.prog 12 #[.string s] W fun e' w' => e' = .returned (.tuple #[.agg #[.bool n, .string d, .int .i64 e], .bool ok]) ∧ Below W.heap.size W w') :
    Calls Tryd.prog 7 #[.string s] w fun e' w' => e' = .returned (.tuple #[.bool n, .string d, .int .i64 e, .bool ok]) ∧ Below w.heap.size w w' := by
  have H := hid_mk c
  clear c
  go_enter Tryd.func7, Tryd.ntmps7
  go_wp2_with (go_at_call 12; refine (H.out _).mono ?_; rintro e w1 ⟨rfl, hb⟩)
  go_quiet (fail)
  go_wp2
  exact bodyPost_ret (v := .tuple #[.bool n, .string d, .int .i64 e, .bool ok]) (by simp [results, Tryd.results7, go_sem]) rfl ⟨rfl, bdrew (hb.alloc hb.size _) _⟩

theorem zz_any (s : ByteArray) (w : World) (hs : s.size ≤ 1048576) :
    Calls Tryd.prog 7 #[.string s] w fun e w' => e = .returned (tupV (Pl.readF s.data.toList)) ∧ Below w.heap.size w w' := by
  have c := fun W => read_any s W hs
  cases h : Pl.readF s.data.toList with
  | none =>
    rw [h] at c
    exact zz_core s w false ⟨#[]⟩ 0 false c
  | some a =>
    obtain ⟨n, d, e⟩ := a
    rw [h] at c
    exact zz_core s w n ⟨d.toArray⟩ e true c
end Go.Proofs.Qxb6600799aDoor
