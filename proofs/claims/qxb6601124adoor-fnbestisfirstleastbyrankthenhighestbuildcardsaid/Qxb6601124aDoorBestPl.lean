/-
  Best and its model, with no Go in sight.
-/
import Derived.Test.Qxb6601124aDoorOrder
namespace Go.Proofs.Qxb6601124aDoor
namespace Pl

section
variable (R : Nat → Nat) (B : Nat → List UInt8) (L : Nat)

/-- Wheel j beats wheel i. -/
def Beats (j i : Nat) : Prop := R j < R i ∨ (R j = R i ∧ (0 < cb (B j) (B i) ∨ (cb (B j) (B i) = 0 ∧ j < i)))

/-- What Best holds behind k wheels. -/
def bestTo : Nat → Option Nat
  | 0 => none
  | k + 1 => if R k = L then bestTo k else match bestTo k with
    | none => some k
    | some b => if R k < R b ∨ (R k = R b ∧ 0 < cb (B k) (B b)) then some k else some b

/-- No other running wheel of the first n beats wheel i. -/
def Unb (n i : Nat) : Prop := ∀ j, j < n → j ≠ i → R j ≠ L → ¬ Beats R B j i

variable {R B L}
theorem beats_total {i j : Nat} (h : i ≠ j) : Beats R B i j ∨ Beats R B j i := by
  unfold Beats
  have := cb_anti (B i) (B j)
  omega
theorem beats_asym {i j : Nat} (h : Beats R B i j) : ¬ Beats R B j i := by
  unfold Beats at *
  have := cb_anti (B i) (B j)
  omega
theorem beats_trans {i j k : Nat} (h1 : Beats R B i j) (h2 : Beats R B j k) : Beats R B i k := by
  unfold Beats at *
  have t := cb_trans (B i) (B j) (B k)
  unfold Tr at t
  rcases h1 with h1 | ⟨h1, h1'⟩
  · rcases h2 with h2 | ⟨h2, _⟩ <;> (left; omega)
  · rcases h2 with h2 | ⟨h2, h2'⟩
    · left; omega
    · right
      refine ⟨by omega, ?_⟩
      have := t (by omega) (by omega)
      by_cases h0 : 0 < cb (B i) (B j) ∨ 0 < cb (B j) (B k)
      · exact Or.inl (this.2 h0)
      · have s := cb_trans (B k) (B j) (B i)
        unfold Tr at s
        have a1 := cb_anti (B i) (B j)
        have a2 := cb_anti (B j) (B k)
        have a3 := cb_anti (B i) (B k)
        have := s (by omega) (by omega)
        right
        omega

theorem bestTo_spec : ∀ k, (bestTo R B L k = none → ∀ j, j < k → R j = L) ∧ (∀ b, bestTo R B L k = some b → b < k ∧ R b ≠ L ∧ Unb R B L k b)
  | 0 => ⟨fun _ j h => by omega, fun b h => by simp [bestTo] at h⟩
  | k + 1 => by
    obtain ⟨ih1, ih2⟩ := bestTo_spec k
    unfold bestTo
    by_cases hk : R k = L
    · rw [if_pos hk]
      refine ⟨fun h j hj => ?_, fun b h => ?_⟩
      · by_cases e : j = k
        · rw [e]; exact hk
        · exact ih1 h j (by omega)
      · obtain ⟨h1, h2, h3⟩ := ih2 b h
        refine ⟨by omega, h2, fun j hj hne hr => ?_⟩
        by_cases e : j = k
        · rw [e] at hr; exact absurd hk hr
        · exact h3 j (by omega) hne hr
    · rw [if_neg hk]
      cases hb : bestTo R B L k with
      | none =>
        have h0 := ih1 hb
        refine ⟨fun h => by simp at h, fun b h => ?_⟩
        obtain rfl : k = b := by simpa using h
        exact ⟨by omega, hk, fun j hj hne hr => absurd (h0 j (by omega)) hr⟩
      | some b =>
        obtain ⟨h1, h2, h3⟩ := ih2 b hb
        by_cases hc : R k < R b ∨ (R k = R b ∧ 0 < cb (B k) (B b))
        · have hbt : Beats R B k b := by unfold Beats; omega
          simp only [if_pos hc]
          refine ⟨fun h => by simp at h, fun b' h => ?_⟩
          obtain rfl : k = b' := by simpa using h
          refine ⟨by omega, hk, fun j hj hne hr hbj => ?_⟩
          by_cases e : j = b
          · rw [e] at hbj; exact beats_asym hbt hbj
          · exact h3 j (by omega) e hr (beats_trans hbj hbt)
        · simp only [if_neg hc]
          refine ⟨fun h => by simp at h, fun b' h => ?_⟩
          obtain rfl : b = b' := by simpa using h
          refine ⟨by omega, h2, fun j hj hne hr hbj => ?_⟩
          by_cases e : j = k
          · rw [e] at hbj; unfold Beats at hbj; omega
          · exact h3 j (by omega) hne hr hbj

/-- The wheel that none beats is the one that Best holds. -/
theorem best_unique {n i : Nat} (hi : i < n) (hr : R i ≠ L) (hu : Unb R B L n i) : bestTo R B L n = some i := by
  obtain ⟨s1, s2⟩ := bestTo_spec (R := R) (B := B) (L := L) n
  cases hb : bestTo R B L n with
  | none => exact absurd (s1 hb i hi) hr
  | some b =>
    obtain ⟨h1, h2, h3⟩ := s2 b hb
    by_cases e : b = i
    · rw [e]
    · rcases beats_total (R := R) (B := B) e with h | h
      · exact absurd h (hu b h1 e h2)
      · exact absurd h (h3 i hi (fun e2 => e e2.symm) hr)
theorem best_none {n : Nat} (h : ∀ i, i < n → R i ≠ L → ¬ Unb R B L n i) : bestTo R B L n = none := by
  obtain ⟨s1, s2⟩ := bestTo_spec (R := R) (B := B) (L := L) n
  cases hb : bestTo R B L n with
  | none => rfl
  | some b =>
    obtain ⟨h1, h2, h3⟩ := s2 b hb
    exact absurd h3 (h b h1 h2)
end

/-- The first place in the list that the wheel's own tags name. -/
def firstRank {T : Type} [BEq T] (own ts : List T) : Nat := ts.findIdx fun t => own.contains t
/-- The rank as Best reckons it, behind some of the wheel's tags. -/
def rankTo {T : Type} [BEq T] (ts : List T) (own : List T) : Nat := own.foldl (fun r t => if ts.contains t ∧ ts.idxOf t < r then ts.idxOf t else r) ts.length

theorem rankTo_snoc {T : Type} [BEq T] (ts own : List T) (t : T) : rankTo ts (own ++ [t]) = if ts.contains t ∧ ts.idxOf t < rankTo ts own then ts.idxOf t else rankTo ts own := by
  unfold rankTo; rw [List.foldl_append]; rfl

theorem findIdx_or {T : Type} (p q : T → Bool) : ∀ l : List T, l.findIdx (fun t => p t || q t) = min (l.findIdx p) (l.findIdx q)
  | [] => rfl
  | c :: l => by
    rw [List.findIdx_cons, List.findIdx_cons, List.findIdx_cons, findIdx_or p q l]
    cases p c <;> cases q c <;> simp <;> omega

theorem rank_go {T : Type} [BEq T] [LawfulBEq T] (ts : List T) : ∀ (own : List T) (r : Nat), r ≤ ts.length →
    own.foldl (fun r t => if ts.contains t ∧ ts.idxOf t < r then ts.idxOf t else r) r = min r (firstRank own ts)
  | [], r, h => by
    have : firstRank ([] : List T) ts = ts.length := by
      unfold firstRank; rw [List.findIdx_eq_length]; intro x _; rfl
    rw [this]; simp; omega
  | t :: own, r, h => by
    have e : firstRank (t :: own) ts = min (ts.idxOf t) (firstRank own ts) := by
      unfold firstRank List.idxOf
      rw [← findIdx_or]
      congr 1
    have hl : ts.idxOf t ≤ ts.length := List.idxOf_le_length
    rw [List.foldl_cons, rank_go ts own _ (by split <;> omega), e]
    by_cases hc : ts.contains t = true
    · by_cases hlt : ts.idxOf t < r
      · rw [if_pos ⟨hc, hlt⟩]; omega
      · rw [if_neg (fun h => hlt h.2)]; omega
    · have : ts.idxOf t = ts.length := List.idxOf_eq_length (by simpa using hc)
      rw [if_neg (fun h => hc h.1)]; omega

/-- Both ways of ranking agree. -/
theorem rank_eq {T : Type} [BEq T] [LawfulBEq T] (ts own : List T) : rankTo ts own = firstRank own ts := by
  unfold rankTo
  rw [rank_go ts own _ (Nat.le_refl _)]
  have : firstRank own ts ≤ ts.length := List.findIdx_le_length
  omega
end Pl
end Go.Proofs.Qxb6601124aDoor
