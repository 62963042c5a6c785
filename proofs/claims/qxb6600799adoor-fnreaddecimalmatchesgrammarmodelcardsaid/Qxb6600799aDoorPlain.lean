/-
  The plain laws of this seat: the two readers of a decimal, as functions on lists of bytes, are one.
-/
import Derived.Lib.TrimByte
namespace Go.Proofs.Qxb6600799aDoor.Pl
open Go
set_option linter.unusedSimpArgs false

/-- A decimal digit. -/
def isDig (c : UInt8) : Bool := decide (48 ≤ c.toNat) && decide (c.toNat ≤ 57)
def run (l : List UInt8) : List UInt8 := l.takeWhile isDig
def after (l : List UInt8) : List UInt8 := l.dropWhile isDig
def cap : Int := 1048576
def val (c : UInt8) : Int := (c.toNat : Int) - 48

/-- The exponent as the reader under test gathers it. -/
def satR (p : List UInt8) : Int := p.foldl (fun x c => min (x * 10 + val c) cap) 0
/-- The exponent as the model gathers it. -/
def satM (p : List UInt8) : Int := p.foldl (fun x c => if x ≤ cap then x * 10 + val c else x) 0

/-- The answer: refused, or sign, digits, exponent. -/
abbrev Ans := Option (Bool × List UInt8 × Int)

def finR (neg : Bool) (W F : List UInt8) (e : Int) : Ans :=
  if Lib.trimRightB (Lib.trimLeftB (W ++ F) 48) 48 = [] then some (false, [], 0)
  else some (neg, Lib.trimRightB (Lib.trimLeftB (W ++ F) 48) 48, e - F.length + (Lib.trimLeftB (W ++ F) 48).length - (Lib.trimRightB (Lib.trimLeftB (W ++ F) 48) 48).length)
/-- The power without its sign, and the sign. -/
def powR (p0 : List UInt8) : Int × List UInt8 := if p0.head? = some 45 then (-1, p0.tail) else (1, Lib.trimPrefix p0 [43])
def expR (neg : Bool) (W F r : List UInt8) : Ans :=
  if r = [] then finR neg W F 0
  else if r.head? = some 101 ∨ r.head? = some 69 then
    (if run (powR r.tail).2 = [] ∨ after (powR r.tail).2 ≠ [] then none else finR neg W F (satR (powR r.tail).2 * (powR r.tail).1))
  else none
def fracR (neg : Bool) (W r1 : List UInt8) : Ans :=
  if r1.head? = some 46 then (if run r1.tail = [] then none else expR neg W (run r1.tail) (after r1.tail)) else expR neg W [] r1
def rest0 (l : List UInt8) : List UInt8 := if l.head? = some 45 then l.tail else l
def readF (l : List UInt8) : Ans :=
  if run (rest0 l) = [] ∨ (1 < (run (rest0 l)).length ∧ (run (rest0 l)).head? = some 48) then none
  else fracR (l.head? == some 45) (run (rest0 l)) (after (rest0 l))

/-- The places of the first digit that is not 0, and behind the last. -/
def lead (m : List UInt8) : Nat := (m.takeWhile (· == 48)).length
def upto (m : List UInt8) : Nat := (Lib.trimRightB m 48).length
def finM (neg : Bool) (W F : List UInt8) (e : Int) : Ans :=
  if upto (W ++ F) = 0 then some (false, [], 0)
  else some (neg, ((W ++ F).take (upto (W ++ F))).drop (lead (W ++ F)), e + W.length - 1 - ((upto (W ++ F) : Int) - 1))
def powM (p0 : List UInt8) : Bool × List UInt8 := if p0.head? = some 43 then (false, p0.tail) else if p0.head? = some 45 then (true, p0.tail) else (false, p0)
def expVal (eneg : Bool) (D : List UInt8) : Int := if eneg then - min (satM D) cap else min (satM D) cap
def expM (neg : Bool) (W F r : List UInt8) : Ans :=
  if r.head? = some 101 ∨ r.head? = some 69 then
    (if run (powM r.tail).2 = [] then none else if after (powM r.tail).2 ≠ [] then none else finM neg W F (expVal (powM r.tail).1 (run (powM r.tail).2)))
  else if r ≠ [] then none else finM neg W F 0
def fracM (neg : Bool) (W r1 : List UInt8) : Ans :=
  if r1.head? = some 46 then (if run r1.tail = [] then none else expM neg W (run r1.tail) (after r1.tail)) else expM neg W [] r1
/-- The whole part as the model takes it. -/
def whole (r0 : List UInt8) : List UInt8 := if r0.head? = some 48 then [48] else run r0
def modelF (l : List UInt8) : Ans :=
  if run (rest0 l) = [] then none else fracM (l.head? == some 45) (whole (rest0 l)) ((rest0 l).drop (whole (rest0 l)).length)

theorem run_after (l : List UInt8) : run l ++ after l = l := List.takeWhile_append_dropWhile
theorem drop_run (l : List UInt8) : l.drop (run l).length = after l := by
  have h : (run l ++ after l).drop (run l).length = after l := by simp
  rw [run_after] at h
  exact h

theorem take_run (l : List UInt8) : l.take (run l).length = run l := by
  have h : (run l ++ after l).take (run l).length = run l := by simp
  rw [run_after] at h
  exact h

theorem dw_nil (p : UInt8 → Bool) : ∀ (l : List UInt8), l.dropWhile p = [] → ∀ x ∈ l, p x = true
  | [], _, x, hx => by simp at hx
  | c :: l, h, x, hx => by
    rw [List.dropWhile_cons] at h
    split at h
    · rename_i hc
      rcases List.mem_cons.1 hx with rfl | hx'
      · exact hc
      · exact dw_nil p l h x hx'
    · cases h

theorem run_all (l : List UInt8) : ∀ c ∈ run l, isDig c = true := fun c hc => by
  induction l with
  | nil => simp [run] at hc
  | cons d l ih =>
    unfold run at hc ih
    rw [List.takeWhile_cons] at hc
    split at hc
    · rename_i hd
      rcases List.mem_cons.1 hc with rfl | h
      · exact hd
      · exact ih h
    · simp at hc

theorem after_head (l : List UInt8) (c : UInt8) (h : (after l).head? = some c) : isDig c = false := by
  have := List.head?_dropWhile_not isDig l
  unfold after at h
  rw [h] at this
  simpa using this

theorem run_cons (c : UInt8) (l : List UInt8) (h : isDig c = true) : run (c :: l) = c :: run l := by
  unfold run; rw [List.takeWhile_cons, h]; rfl
theorem after_cons (c : UInt8) (l : List UInt8) (h : isDig c = true) : after (c :: l) = after l := by
  unfold after; rw [List.dropWhile_cons, h]; rfl

theorem run_of_after (p : List UInt8) (h : after p = []) : run p = p := by
  have := run_after p
  rw [h, List.append_nil] at this
  exact this

/-! ### The exponent -/
theorem val_nonneg {c : UInt8} (h : isDig c = true) : 0 ≤ val c ∧ val c ≤ 9 := by
  simp [isDig] at h
  unfold val; omega

theorem sat_go (p : List UInt8) (h : ∀ c ∈ p, isDig c = true) : ∀ (x y : Int), 0 ≤ x → 0 ≤ y → x = min y cap →
    p.foldl (fun x c => min (x * 10 + val c) cap) x = min (p.foldl (fun x c => if x ≤ cap then x * 10 + val c else x) y) cap := by
  induction p with
  | nil => intro x y _ _ e; simpa using e
  | cons c p ih =>
    intro x y hx hy e
    have hv := val_nonneg (h c (by simp))
    have ih' := ih (fun d hd => h d (by simp [hd]))
    rw [List.foldl_cons, List.foldl_cons]
    have hc : cap = 1048576 := rfl
    by_cases hle : y ≤ cap
    · rw [if_pos hle]
      have : x = y := by omega
      subst this
      exact ih' _ _ (by omega) (by omega) rfl
    · rw [if_neg hle]
      have : x = cap := by omega
      subst this
      exact ih' _ _ (by omega) (by omega) (by omega)

theorem sat_eq (p : List UInt8) (h : ∀ c ∈ p, isDig c = true) : satR p = min (satM p) cap :=
  sat_go p h 0 0 (by omega) (by omega) (by simp only [cap]; omega)

theorem satR_bound_go (p : List UInt8) (h : ∀ c ∈ p, isDig c = true) : ∀ x : Int, 0 ≤ x → x ≤ cap → 0 ≤ p.foldl (fun x c => min (x * 10 + val c) cap) x ∧ p.foldl (fun x c => min (x * 10 + val c) cap) x ≤ cap := by
  induction p with
  | nil => intro x h0 h1; exact ⟨h0, h1⟩
  | cons c p ih =>
    intro x h0 h1
    have hv := val_nonneg (h c (by simp))
    have hc : cap = 1048576 := rfl
    rw [List.foldl_cons]
    exact ih (fun d hd => h d (by simp [hd])) _ (by omega) (by omega)

theorem satR_bound (p : List UInt8) (h : ∀ c ∈ p, isDig c = true) : 0 ≤ satR p ∧ satR p ≤ cap :=
  satR_bound_go p h 0 (by omega) (by simp [cap])

theorem satM_bound_go (p : List UInt8) (h : ∀ c ∈ p, isDig c = true) : ∀ x : Int, 0 ≤ x → x ≤ 10 * cap + 9 → 0 ≤ p.foldl (fun x c => if x ≤ cap then x * 10 + val c else x) x ∧ p.foldl (fun x c => if x ≤ cap then x * 10 + val c else x) x ≤ 10 * cap + 9 := by
  induction p with
  | nil => intro x h0 h1; exact ⟨h0, h1⟩
  | cons c p ih =>
    intro x h0 h1
    have hv := val_nonneg (h c (by simp))
    have hc : cap = 1048576 := rfl
    rw [List.foldl_cons]
    have ih' := ih (fun d hd => h d (by simp [hd]))
    split
    · exact ih' _ (by omega) (by omega)
    · exact ih' _ h0 h1

theorem satM_bound (p : List UInt8) (h : ∀ c ∈ p, isDig c = true) : 0 ≤ satM p ∧ satM p ≤ 10 * cap + 9 :=
  satM_bound_go p h 0 (by omega) (by simp [cap])

/-! ### The digits -/
theorem trimR_prefix (m : List UInt8) : Lib.trimRightB m 48 <+: m := by
  unfold Lib.trimRightB
  have := (List.dropWhile_suffix (· == (48 : UInt8)) (l := m.reverse))
  have h2 := List.reverse_prefix.2 this
  rwa [List.reverse_reverse] at h2

theorem upto_le (m : List UInt8) : upto m ≤ m.length := (trimR_prefix m).length_le
theorem take_upto (m : List UInt8) : m.take (upto m) = Lib.trimRightB m 48 := (List.prefix_iff_eq_take.1 (trimR_prefix m)).symm

theorem trimR_zeros (k : Nat) : Lib.trimRightB (List.replicate k 48) 48 = [] := by
  simp [Lib.trimRightB]

theorem trimR_append_ne (a b : List UInt8) (h : Lib.trimRightB b 48 ≠ []) : Lib.trimRightB (a ++ b) 48 = a ++ Lib.trimRightB b 48 := by
  unfold Lib.trimRightB at h ⊢
  rw [List.reverse_append, List.dropWhile_append]
  have : (b.reverse.dropWhile (· == (48 : UInt8))).isEmpty = false := by
    cases hb : b.reverse.dropWhile (· == (48 : UInt8)) with
    | nil => rw [hb] at h; simp at h
    | cons => rfl
  rw [this]
  simp

theorem lead_split (m : List UInt8) : m = List.replicate (lead m) 48 ++ Lib.trimLeftB m 48 := by
  have h := (List.takeWhile_append_dropWhile (p := (· == (48 : UInt8))) (l := m)).symm
  have h2 : m.takeWhile (· == (48 : UInt8)) = List.replicate (lead m) 48 := by
    unfold lead
    rw [List.eq_replicate_iff]
    refine ⟨rfl, fun b hb => ?_⟩
    have : ∀ (l : List UInt8), ∀ b ∈ l.takeWhile (· == (48 : UInt8)), b = 48 := by
      intro l
      induction l with
      | nil => simp
      | cons c l ih =>
        intro b hb
        rw [List.takeWhile_cons] at hb
        split at hb
        · rename_i hc
          rcases List.mem_cons.1 hb with rfl | hb'
          · simpa using hc
          · exact ih b hb'
        · simp at hb
    exact this m b hb
  rw [h2] at h
  exact h

theorem dropWhile_head (m : List UInt8) (h : Lib.trimLeftB m 48 ≠ []) : Lib.trimRightB (Lib.trimLeftB m 48) 48 ≠ [] := by
  match hm : Lib.trimLeftB m 48, h with
  | c :: t, _ =>
    have hc : c ≠ 48 := by
      have := List.head?_dropWhile_not (· == (48 : UInt8)) m
      unfold Lib.trimLeftB at hm
      rw [hm] at this
      simpa using this
    intro e
    unfold Lib.trimRightB at e
    have e2 : (c :: t).reverse.dropWhile (· == (48 : UInt8)) = [] := by simpa using e
    have := dw_nil _ _ e2 c (by simp)
    exact hc (by simpa using this)

theorem fin_eq (neg : Bool) (W F : List UInt8) (e : Int) : finM neg W F e = finR neg W F e := by
  unfold finM finR
  have hs := lead_split (W ++ F)
  by_cases h : Lib.trimLeftB (W ++ F) 48 = []
  · have h0 : upto (W ++ F) = 0 := by
      unfold upto
      rw [hs, h, List.append_nil, trimR_zeros]; rfl
    rw [if_pos h0, h]; rfl
  · have hne := dropWhile_head _ h
    have h1 : Lib.trimRightB (W ++ F) 48 = List.replicate (lead (W ++ F)) 48 ++ Lib.trimRightB (Lib.trimLeftB (W ++ F) 48) 48 := by
      conv => lhs; rw [hs]
      exact trimR_append_ne _ _ hne
    have hl : upto (W ++ F) = lead (W ++ F) + (Lib.trimRightB (Lib.trimLeftB (W ++ F) 48) 48).length := by
      unfold upto; rw [h1]; simp
    have hpos : 0 < (Lib.trimRightB (Lib.trimLeftB (W ++ F) 48) 48).length := List.length_pos_iff.2 hne
    rw [if_neg (by omega), if_neg hne, take_upto, h1]
    have hlen : (W ++ F).length = lead (W ++ F) + (Lib.trimLeftB (W ++ F) 48).length := by
      conv => lhs; rw [hs]
      simp
    rw [List.length_append] at hlen
    congr 1
    refine Prod.ext rfl (Prod.ext ?_ ?_)
    · simp
    · simp only
      omega

theorem dig_ne {c : UInt8} (h : isDig c = true) : c ≠ 45 ∧ c ≠ 46 ∧ c ≠ 101 ∧ c ≠ 69 ∧ c ≠ 43 := by
  refine ⟨?_, ?_, ?_, ?_, ?_⟩ <;> (rintro rfl; revert h; decide)

theorem exp_eq (neg : Bool) (W F r : List UInt8) : expM neg W F r = expR neg W F r := by
  unfold expM expR
  by_cases h0 : r = []
  · subst h0; simp [fin_eq]
  · by_cases h1 : r.head? = some 101 ∨ r.head? = some 69
    · rw [if_pos h1, if_neg h0, if_pos h1]
      have hp : (powM r.tail).2 = (powR r.tail).2 ∧ (powR r.tail).1 = if (powM r.tail).1 then -1 else 1 := by
        unfold powM powR
        by_cases a : r.tail.head? = some 45
        · rw [if_neg (by rw [a]; simp), if_pos a, if_pos a]; exact ⟨rfl, rfl⟩
        · rw [if_neg a]
          by_cases b : r.tail.head? = some 43
          · rw [if_pos b]
            match ht : r.tail, b with
            | c :: t, b =>
              have : c = 43 := by simpa using b
              subst this
              exact ⟨by simp [Lib.trimPrefix, Lib.hasPrefix], rfl⟩
          · rw [if_neg b, if_neg a]
            refine ⟨?_, rfl⟩
            show r.tail = _
            unfold Lib.trimPrefix
            rw [if_neg]
            intro hh
            match ht : r.tail, b, hh with
            | c :: t, b, hh =>
              have : 43 = c := by simpa [Lib.hasPrefix] using hh
              exact b (by rw [← this]; rfl)
            | [], b, hh => simp [Lib.hasPrefix] at hh
      rw [hp.1, hp.2]
      generalize (powR r.tail).2 = p
      by_cases ha : after p = []
      · have hr := run_of_after p ha
        by_cases hd : run p = []
        · rw [if_pos hd, if_pos (.inl hd)]
        · rw [if_neg hd, if_neg (by simp [ha]), if_neg (by simp [hd, ha]), fin_eq, hr]
          have hs := sat_eq p (fun c hc => run_all p c (by rw [hr]; exact hc))
          unfold expVal
          congr 1
          cases (powM r.tail).1
          · simp [hs]
          · simp [hs]
      · by_cases hd : run p = []
        · rw [if_pos hd, if_pos (.inl hd)]
        · rw [if_neg hd, if_pos ha, if_pos (.inr ha)]
    · rw [if_neg h1, if_pos h0, if_neg h0, if_neg h1]

theorem frac_eq (neg : Bool) (W r1 : List UInt8) : fracM neg W r1 = fracR neg W r1 := by
  unfold fracM fracR
  simp only [exp_eq]

theorem model_eq (l : List UInt8) : modelF l = readF l := by
  unfold modelF readF
  by_cases h0 : run (rest0 l) = []
  · rw [if_pos h0, if_pos (.inl h0)]
  · rw [if_neg h0]
    generalize rest0 l = r0 at h0 ⊢
    match r0, h0 with
    | c :: t, h0 =>
      have hc : isDig c = true := by
        cases hd : isDig c with
        | true => rfl
        | false => exact absurd (by unfold run; rw [List.takeWhile_cons, hd]; rfl) h0
      have hrun := run_cons c t hc
      by_cases hz : c = 48
      · subst hz
        have hw : whole (48 :: t) = [48] := by unfold whole; simp
        rw [hw]
        cases ht : run t with
        | nil =>
          rw [hrun, ht, if_neg (by simp), frac_eq]
          have : after (48 :: t) = t := by
            rw [after_cons 48 t hc]
            have := run_after t
            rw [ht] at this; exact this
          rw [this]; rfl
        | cons d u =>
          rw [hrun, ht, if_pos (.inr ⟨by simp, rfl⟩)]
          have hd : isDig d = true := run_all t d (by rw [ht]; simp)
          have hth : t.head? = some d := by
            have := run_after t
            rw [ht] at this; rw [← this]; rfl
          have hne := dig_ne hd
          show fracM _ _ t = none
          unfold fracM expM
          rw [hth, if_neg (by simp [hne.2.1]), if_neg (by simp [hne.2.2.1, hne.2.2.2.1]), if_pos (by intro e; rw [e] at hth; cases hth)]
      · have hw : whole (c :: t) = run (c :: t) := by unfold whole; rw [if_neg (by simpa using hz)]
        rw [hw, drop_run, if_neg, frac_eq]
        rw [hrun]
        simp [hz]

end Go.Proofs.Qxb6600799aDoor.Pl
