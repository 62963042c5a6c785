/-
  compareBuilds orders the tags: a total preorder.
-/
import Derived.Test.Qxb6601124aDoorPlain
namespace Go.Proofs.Qxb6601124aDoor
namespace Pl

theorem cmp_cons (a b : UInt8) (x y : List UInt8) : cmp (a :: x) (b :: y) = if a.toNat < b.toNat then -1 else if b.toNat < a.toNat then 1 else cmp x y := by
  show Lib.compareBytes (a :: x) (b :: y) = _
  rw [Lib.compareBytes]
  simp only [UInt8.lt_iff_toNat_lt]
  rfl

theorem cmp_anti : ∀ (x y : List UInt8), cmp y x = - cmp x y
  | [], [] => rfl
  | [], _ :: _ => rfl
  | _ :: _, [] => rfl
  | a :: x, b :: y => by
    have ih := cmp_anti x y
    rw [cmp_cons, cmp_cons, ih]
    split <;> split <;> omega

/-- What a comparison must do to order. -/
def Tr (p q r : Int) : Prop := 0 ≤ p → 0 ≤ q → 0 ≤ r ∧ (0 < p ∨ 0 < q → 0 < r)

theorem cmp_trans : ∀ (x y z : List UInt8), Tr (cmp x y) (cmp y z) (cmp x z)
  | [], [], z => fun _ h => ⟨h, fun h2 => by rcases h2 with h2 | h2; · exact absurd h2 (by decide)
                                             · exact h2⟩
  | [], _ :: _, _ => fun h _ => absurd h (by show ¬ (0 : Int) ≤ -1; decide)
  | a :: x, [], [] => fun _ _ => ⟨by show (0 : Int) ≤ 1; decide, fun _ => by show (0 : Int) < 1; decide⟩
  | a :: x, [], _ :: _ => fun _ h => absurd h (by show ¬ (0 : Int) ≤ -1; decide)
  | a :: x, b :: y, [] => fun _ _ => ⟨by show (0 : Int) ≤ 1; decide, fun _ => by show (0 : Int) < 1; decide⟩
  | a :: x, b :: y, c :: z => by
    have ih := cmp_trans x y z
    unfold Tr at ih ⊢
    rw [cmp_cons, cmp_cons, cmp_cons]
    by_cases h1 : a.toNat < b.toNat
    · rw [if_pos h1]; intro h; omega
    · rw [if_neg h1]
      by_cases h2 : b.toNat < c.toNat
      · rw [if_pos h2]; intro _ h; omega
      · rw [if_neg h2]
        by_cases h3 : b.toNat < a.toNat
        · rw [if_pos h3, if_neg (show ¬ a.toNat < c.toNat by omega), if_pos (show c.toNat < a.toNat by omega)]
          intro _ _; omega
        · rw [if_neg h3]
          by_cases h4 : c.toNat < b.toNat
          · rw [if_pos h4, if_neg (show ¬ a.toNat < c.toNat by omega), if_pos (show c.toNat < a.toNat by omega)]
            intro _ _; omega
          · rw [if_neg h4, if_neg (show ¬ a.toNat < c.toNat by omega), if_neg (show ¬ c.toNat < a.toNat by omega)]
            exact ih

/-- The three tests of compareBuilds. -/
def cbC (p q : Nat) (x y : Int) : Int := if p = q then (if x = 0 then y else x) else (p : Int) - (q : Int)
theorem cbC_eq {p q : Nat} {x y : Int} (h : p = q) (h2 : x = 0) : cbC p q x y = y := by unfold cbC; rw [if_pos h, if_pos h2]
theorem cbC_x {p q : Nat} {x y : Int} (h : p = q) (h2 : x ≠ 0) : cbC p q x y = x := by unfold cbC; rw [if_pos h, if_neg h2]
theorem cbC_p {p q : Nat} {x y : Int} (h : p ≠ q) : cbC p q x y = (p : Int) - (q : Int) := by unfold cbC; rw [if_neg h]

theorem cb_ne {a b : List UInt8} (ha : a ≠ []) (hb : b ≠ []) : cb a b = cbC (sig (run a)).length (sig (run b)).length (cmp (sig (run a)) (sig (run b))) (cmp (after a) (after b)) := by
  have h : ¬ (a = [] ∨ b = []) := by simp [ha, hb]
  unfold cb
  rw [if_neg h]
  by_cases h1 : (sig (run a)).length = (sig (run b)).length
  · rw [if_neg (fun h2 => h2 h1)]
    by_cases h2 : cmp (sig (run a)) (sig (run b)) = 0
    · rw [if_neg (fun h3 => h3 h2), cbC_eq h1 h2]
    · rw [if_pos h2, cbC_x h1 h2]
  · rw [if_pos h1, cbC_p h1]

theorem cbC_anti (p q : Nat) (x y : Int) : cbC q p (-x) (-y) = - cbC p q x y := by
  by_cases h1 : p = q
  · by_cases h2 : x = 0
    · rw [cbC_eq h1 h2, cbC_eq h1.symm (by omega)]
    · rw [cbC_x h1 h2, cbC_x h1.symm (by omega)]
  · rw [cbC_p h1, cbC_p (fun h => h1 h.symm)]; omega

theorem cb_anti (a b : List UInt8) : cb b a = - cb a b := by
  by_cases h : a = [] ∨ b = []
  · unfold cb; rw [if_pos h, if_pos (Or.symm h)]; omega
  · have ha : a ≠ [] := fun e => h (Or.inl e)
    have hb : b ≠ [] := fun e => h (Or.inr e)
    rw [cb_ne ha hb, cb_ne hb ha, cmp_anti (sig (run a)) (sig (run b)), cmp_anti (after a) (after b)]
    exact cbC_anti _ _ _ _

theorem cbC_trans (p q r : Nat) (x1 x2 x3 y1 y2 y3 : Int) (t1 : p = q → q = r → Tr x1 x2 x3) (t0 : p = q → q = r → x1 = 0 → x2 = 0 → x3 = 0) (t2 : Tr y1 y2 y3) :
    Tr (cbC p q x1 y1) (cbC q r x2 y2) (cbC p r x3 y3) := by
  by_cases h1 : p = q
  · by_cases h2 : q = r
    · have t1 := t1 h1 h2
      have t0 := t0 h1 h2
      unfold Tr at *
      by_cases hx1 : x1 = 0
      · by_cases hx2 : x2 = 0
        · rw [cbC_eq h1 hx1, cbC_eq h2 hx2, cbC_eq (h1.trans h2) (t0 hx1 hx2)]; exact t2
        · rw [cbC_eq h1 hx1, cbC_x h2 hx2]
          intro a1 a2
          have := t1 (by omega) (by omega)
          rw [cbC_x (h1.trans h2) (by omega)]; omega
      · rw [cbC_x h1 hx1]
        by_cases hx2 : x2 = 0
        · rw [cbC_eq h2 hx2]
          intro a1 a2
          have := t1 (by omega) (by omega)
          rw [cbC_x (h1.trans h2) (by omega)]; omega
        · rw [cbC_x h2 hx2]
          intro a1 a2
          have := t1 (by omega) (by omega)
          rw [cbC_x (h1.trans h2) (by omega)]; omega
    · unfold Tr
      rw [cbC_p h2]
      intro a1 a2
      rw [cbC_p (by omega : p ≠ r)]; omega
  · unfold Tr
    rw [cbC_p h1]
    intro a1
    by_cases h2 : q = r
    · intro a2
      rw [cbC_p (by omega : p ≠ r)]; omega
    · rw [cbC_p h2]
      intro a2
      rw [cbC_p (by omega : p ≠ r)]; omega

theorem cmp_zero : ∀ (x y : List UInt8), cmp x y = 0 → x = y
  | [], [], _ => rfl
  | [], _ :: _, h => absurd h (by show ¬ (-1 : Int) = 0; decide)
  | _ :: _, [], h => absurd h (by show ¬ (1 : Int) = 0; decide)
  | a :: x, b :: y, h => by
    rw [cmp_cons] at h
    by_cases h1 : a.toNat < b.toNat
    · rw [if_pos h1] at h; omega
    · rw [if_neg h1] at h
      by_cases h2 : b.toNat < a.toNat
      · rw [if_pos h2] at h; omega
      · rw [if_neg h2] at h
        rw [cmp_zero x y h, UInt8.toNat_inj.1 (by omega : a.toNat = b.toNat)]

theorem len_pos {a : List UInt8} (h : a ≠ []) : 0 < a.length := List.length_pos_iff.2 h

theorem cb_no {a b : List UInt8} (h : a = [] ∨ b = []) : cb a b = (a.length : Int) - (b.length : Int) := by
  unfold cb; rw [if_pos h]
theorem cb_trans (a b c : List UInt8) : Tr (cb a b) (cb b c) (cb a c) := by
  by_cases ha : a = []
  · rw [cb_no (Or.inl ha), cb_no (Or.inl ha : a = [] ∨ c = [])]
    subst ha
    by_cases hb : b = []
    · subst hb; rw [cb_no (Or.inl rfl)]; unfold Tr; simp only [List.length_nil]; omega
    · have := len_pos hb; unfold Tr; simp only [List.length_nil]; omega
  · by_cases hb : b = []
    · rw [cb_no (Or.inr hb), cb_no (Or.inl hb)]
      subst hb
      have hp := len_pos ha
      by_cases hc : c = []
      · subst hc; rw [cb_no (Or.inr rfl)]; unfold Tr; simp only [List.length_nil]; omega
      · have := len_pos hc; unfold Tr; simp only [List.length_nil]; omega
    · by_cases hc : c = []
      · rw [cb_no (Or.inr hc), cb_no (Or.inr hc : a = [] ∨ c = [])]
        subst hc
        have := len_pos ha
        have := len_pos hb
        unfold Tr; simp only [List.length_nil]; omega
      · rw [cb_ne ha hb, cb_ne hb hc, cb_ne ha hc]
        refine cbC_trans _ _ _ _ _ _ _ _ _ (fun _ _ => cmp_trans _ _ _) (fun _ _ h1 h2 => ?_) (cmp_trans _ _ _)
        rw [cmp_zero _ _ h1, h2]
end Pl
end Go.Proofs.Qxb6601124aDoor
