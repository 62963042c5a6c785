/-
  FnReadDecimalMatchesGrammarModel: the walk of the law.
-/
import Derived.Test.Qxb6600799aDoorModel
namespace Go.Proofs.Qxb6600799aDoor
open Go.RowKit Go.Shelf
set_option linter.unusedVariables false

set_option maxHeartbeats 400000 in
theorem bytes_any (a : ByteArray) (w : World) (ha : a.size ≤ maxLen) :
    Calls Tryd.prog 6 #[.string a] w fun e w' => e = .returned (.bool (decide (a.size ≤ 1048576))) ∧ w' = w := by
  unfold maxLen at ha
  by_cases h1 : a.size ≤ 1048576
  · have HD : Hid (decide (a.size ≤ 1048576) = true) := decide_eq_true h1
    go_enter Tryd.func6, Tryd.ntmps6
    go_wp2
    go_ret
    exact ⟨by rw [HD.out]; rfl, rfl⟩
  · have HD : Hid (decide (a.size ≤ 1048576) = false) := decide_eq_false h1
    go_enter Tryd.func6, Tryd.ntmps6
    go_wp2
    go_ret
    exact ⟨by rw [HD.out]; rfl, rfl⟩

set_option maxHeartbeats 1000000 in
theorem law_core (s : ByteArray) (w : World) (n : Bool) (d : ByteArray) (x : Int) (ok : Bool) (hs : s.size ≤ 1048576) (hok : ok = false → n = false ∧ d = ⟨#[]⟩ ∧ x = 0)
    (c7 : ∀ W : World, Calls Tryd.prog 7 #[.string s] W fun e w' => e = .returned (.tuple #[.bool n, .string d, .int .i64 x, .bool ok]) ∧ Below W.heap.size W w')
    (c8 : ∀ W : World, Calls Tryd.prog 8 #[.string s] W fun e w' => e = .returned (.tuple #[.bool n, .string d, .int .i64 x, .bool ok]) ∧ Below W.heap.size W w') :
    Calls Tryd.prog 3 #[.string s] w fun e w' => e = .returned (.bool true) ∧ Below w.heap.size w w' := by
  have c6 := fun W => bytes_any s W (by unfold maxLen; omega)
  have H6 : Hid (∀ W : World, Calls Tryd.prog 6 #[.string s] W fun e w' => e = .returned (.bool true) ∧ w' = W) := hid_mk fun W => by
    have := c6 W; rwa [decide_eq_true hs] at this
  have H7 := hid_mk c7
  have H8 := hid_mk c8
  clear c6 c7 c8
  cases ok with
  | false =>
    obtain ⟨rfl, rfl, rfl⟩ := hok rfl
    go_enter Tryd.func3, Tryd.ntmps3
    go_wp2_with (first
      | (go_at_call 6; refine (H6.out _).mono ?_; rintro e w1 ⟨rfl, hw⟩; obtain rfl := hw.symm)
      | (go_at_call 7; refine (H7.out _).mono ?_; rintro e w1 ⟨rfl, hb1⟩)
      | (go_at_call 8; refine (H8.out _).mono ?_; rintro e w2 ⟨rfl, hb2⟩))
    go_ret
    exact ⟨rfl, hb1.trans (hb2.mono hb1.size)⟩
  | true =>
    clear hok
    go_enter Tryd.func3, Tryd.ntmps3
    go_wp2_with (first
      | (go_at_call 6; refine (H6.out _).mono ?_; rintro e w1 ⟨rfl, hw⟩; obtain rfl := hw.symm)
      | (go_at_call 7; refine (H7.out _).mono ?_; rintro e w1 ⟨rfl, hb1⟩)
      | (go_at_call 8; refine (H8.out _).mono ?_; rintro e w2 ⟨rfl, hb2⟩))
    go_ret
    exact ⟨rfl, hb1.trans (hb2.mono hb1.size)⟩

set_option maxHeartbeats 1000000 in
/-- **The two readers agree on every text.** -/
theorem law_read (s : ByteArray) (w : World) (ha : s.size ≤ maxLen) : Calls Tryd.prog 3 #[.string s] w fun e w' => e = .returned (.bool true) ∧ Below w.heap.size w w' := by
  by_cases hs : s.size ≤ 1048576
  · have c7 := fun W => zz_any s W hs
    have c8 := fun W => model_any s W hs
    rw [Pl.model_eq] at c8
    cases h : Pl.readF s.data.toList with
    | none =>
      rw [h] at c7 c8
      exact law_core s w false ⟨#[]⟩ 0 false hs (fun _ => ⟨rfl, rfl, rfl⟩) c7 c8
    | some a =>
      obtain ⟨n, d, x⟩ := a
      rw [h] at c7 c8
      exact law_core s w n ⟨d.toArray⟩ x true hs (fun h => by cases h) c7 c8
  · have c6 := fun W => bytes_any s W ha
    have H6 : Hid (∀ W : World, Calls Tryd.prog 6 #[.string s] W fun e w' => e = .returned (.bool false) ∧ w' = W) := hid_mk fun W => by
      have := c6 W; rwa [decide_eq_false hs] at this
    clear c6
    go_enter Tryd.func3, Tryd.ntmps3
    go_wp2_with (go_at_call 6; refine (H6.out _).mono ?_; rintro e w1 ⟨rfl, hw⟩; obtain rfl := hw.symm)
    go_ret
    exact ⟨rfl, Below.refl _ _⟩
end Go.Proofs.Qxb6600799aDoor
