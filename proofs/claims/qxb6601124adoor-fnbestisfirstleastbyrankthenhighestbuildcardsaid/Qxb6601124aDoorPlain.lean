/-
  compareBuilds and its model, with no Go in sight.
-/
import Derived.Lib.Bytealg
import Derived.Lib.TrimByte
namespace Go.Proofs.Qxb6601124aDoor
namespace Pl

def isDig (c : UInt8) : Bool := decide (48 ≤ c.toNat) && decide (c.toNat ≤ 57)
def run (l : List UInt8) : List UInt8 := l.takeWhile isDig
def after (l : List UInt8) : List UInt8 := l.dropWhile isDig
/-- The digits behind the leading zeros. -/
def sig (d : List UInt8) : List UInt8 := Lib.trimLeftB d 48
def cmp (x y : List UInt8) : Int := Lib.compareBytes x y
/-- What compareBuilds answers. -/
def cb (a b : List UInt8) : Int :=
  if a = [] ∨ b = [] then (a.length : Int) - (b.length : Int)
  else if (sig (run a)).length ≠ (sig (run b)).length then ((sig (run a)).length : Int) - ((sig (run b)).length : Int)
  else if cmp (sig (run a)) (sig (run b)) ≠ 0 then cmp (sig (run a)) (sig (run b)) else cmp (after a) (after b)
def pad (n : Nat) (x : List UInt8) : List UInt8 := List.replicate (n - x.length) 48 ++ x
def num (x y : List UInt8) : Int := cmp (pad (max x.length y.length) x) (pad (max x.length y.length) y)
def order (a b : List UInt8) : Int := if num (run a) (run b) ≠ 0 then num (run a) (run b) else cmp (after a) (after b)
def sgn (n : Int) : Int := if n < 0 then -1 else if 0 < n then 1 else 0

theorem run_after (l : List UInt8) : run l ++ after l = l := List.takeWhile_append_dropWhile
theorem run_all (l : List UInt8) : ∀ c ∈ run l, isDig c = true := fun c hc => by
  have := List.all_takeWhile (l := l) (p := isDig)
  exact List.all_eq_true.1 this c hc
theorem run_len (l : List UInt8) : (run l).length + (after l).length = l.length := by
  rw [← List.length_append, run_after]
theorem sig_len (d : List UInt8) : (sig d).length ≤ d.length := (List.dropWhile_suffix _).length_le

theorem cmp_prefix (p x y : List UInt8) : cmp (p ++ x) (p ++ y) = cmp x y := by
  induction p with
  | nil => rfl
  | cons c p ih =>
    show Lib.compareBytes (c :: (p ++ x)) (c :: (p ++ y)) = _
    rw [Lib.compareBytes, if_neg (UInt8.lt_irrefl c), if_neg (UInt8.lt_irrefl c)]
    exact ih
theorem cmp_lt {c d : UInt8} (x y : List UInt8) (h : c < d) : cmp (c :: x) (d :: y) = -1 := by
  show Lib.compareBytes (c :: x) (d :: y) = _
  rw [Lib.compareBytes, if_pos h]
theorem cmp_gt {c d : UInt8} (x y : List UInt8) (h : d < c) : cmp (c :: x) (d :: y) = 1 := by
  show Lib.compareBytes (c :: x) (d :: y) = _
  rw [Lib.compareBytes, if_neg (fun h2 => UInt8.lt_asymm h h2), if_pos h]
theorem cmp_same (c : UInt8) (x y : List UInt8) : cmp (c :: x) (c :: y) = cmp x y := cmp_prefix [c] x y

theorem sig_split (d : List UInt8) : d = List.replicate (d.length - (sig d).length) 48 ++ sig d := by
  induction d with
  | nil => rfl
  | cons c d ih =>
    by_cases hc : c = 48
    · have e : sig (c :: d) = sig d := by unfold sig Lib.trimLeftB; rw [List.dropWhile_cons, if_pos (by simpa using hc)]
      rw [e]
      have hl := sig_len d
      have : (c :: d).length - (sig d).length = (d.length - (sig d).length) + 1 := by rw [List.length_cons]; omega
      rw [this, List.replicate_succ, List.cons_append, ← ih, hc]
    · have e : sig (c :: d) = c :: d := by unfold sig Lib.trimLeftB; rw [List.dropWhile_cons, if_neg (by simpa using hc)]
      rw [e, Nat.sub_self]; rfl
theorem sig_head (d : List UInt8) (h : ∀ c ∈ d, isDig c = true) {c : UInt8} {t : List UInt8} (e : sig d = c :: t) : 48 < c := by
  have hne : c ≠ 48 := by
    intro hc
    have := List.head_dropWhile_not (l := d) (p := (· == 48)) (by unfold sig Lib.trimLeftB at e; rw [e]; simp)
    unfold sig Lib.trimLeftB at e
    simp only [e, List.head_cons] at this
    simp [hc] at this
  have hm : c ∈ d := (List.dropWhile_suffix (· == 48)).mem (by unfold sig Lib.trimLeftB at e; rw [e]; simp)
  have h1 := h c hm
  unfold isDig at h1
  rw [Bool.and_eq_true, decide_eq_true_eq, decide_eq_true_eq] at h1
  have : c.toNat ≠ 48 := fun h => hne (UInt8.toNat_inj.1 h)
  exact UInt8.lt_iff_toNat_lt.2 (by show 48 < c.toNat; omega)
theorem pad_sig (n : Nat) (x : List UInt8) (h : x.length ≤ n) : pad n x = List.replicate (n - (sig x).length) 48 ++ sig x := by
  unfold pad
  have hl := sig_len x
  have : n - (sig x).length = (n - x.length) + (x.length - (sig x).length) := by omega
  rw [this, ← List.replicate_append_replicate, List.append_assoc, ← sig_split]

theorem num_eq (x y : List UInt8) (hx : ∀ c ∈ x, isDig c = true) (hy : ∀ c ∈ y, isDig c = true) :
    num x y = if (sig x).length = (sig y).length then cmp (sig x) (sig y) else sgn (((sig x).length : Int) - ((sig y).length : Int)) := by
  unfold num
  rw [pad_sig _ x (Nat.le_max_left _ _), pad_sig _ y (Nat.le_max_right _ _)]
  have h1 := sig_len x
  have h2 := sig_len y
  generalize hn : max x.length y.length = n
  have h3 : (sig x).length ≤ n := by omega
  have h4 : (sig y).length ≤ n := by omega
  by_cases he : (sig x).length = (sig y).length
  · rw [if_pos he, he, cmp_prefix]
  · rw [if_neg he]
    by_cases hlt : (sig x).length < (sig y).length
    · match hs : sig y with
      | [] => rw [hs] at hlt; simp at hlt
      | c :: t =>
        have hc := sig_head y hy hs
        rw [hs] at hlt h4
        have : n - (sig x).length = (n - (c :: t).length) + (((c :: t).length - (sig x).length - 1) + 1) := by omega
        rw [this, ← List.replicate_append_replicate, List.append_assoc, cmp_prefix, List.replicate_succ, List.cons_append, cmp_lt _ _ hc]
        unfold sgn; rw [if_pos (by omega)]
    · match hs : sig x with
      | [] => exact absurd (show (sig x).length = 0 by rw [hs]; rfl) (by omega)
      | c :: t =>
        have hc := sig_head x hx hs
        rw [hs] at hlt h3 he
        have : n - (sig y).length = (n - (c :: t).length) + (((c :: t).length - (sig y).length - 1) + 1) := by omega
        rw [this, ← List.replicate_append_replicate, List.append_assoc, cmp_prefix, List.replicate_succ, List.cons_append, cmp_gt _ _ hc]
        unfold sgn; rw [if_neg (by omega), if_pos (by omega)]

/-- The law, where both tags are not empty. -/
theorem law_ne (a b : List UInt8) (ha : a ≠ []) (hb : b ≠ []) (h : (sig (run a)).length ≠ (sig (run b)).length) :
    cb a b = ((sig (run a)).length : Int) - ((sig (run b)).length : Int) ∧ order a b = sgn (cb a b) := by
  have e : cb a b = ((sig (run a)).length : Int) - ((sig (run b)).length : Int) := by
    unfold cb; rw [if_neg (by simp [ha, hb]), if_pos h]
  refine ⟨e, ?_⟩
  have h2 := num_eq (run a) (run b) (run_all a) (run_all b)
  rw [if_neg h] at h2
  rw [e]
  unfold order
  rw [h2, if_pos]
  unfold sgn
  split
  · decide
  · split
    · decide
    · omega
theorem law_eq (a b : List UInt8) (ha : a ≠ []) (hb : b ≠ []) (h : (sig (run a)).length = (sig (run b)).length) : cb a b = order a b := by
  have h2 := num_eq (run a) (run b) (run_all a) (run_all b)
  rw [if_pos h] at h2
  unfold cb order
  rw [if_neg (by simp [ha, hb]), if_neg (by simp [h]), h2]
end Pl
end Go.Proofs.Qxb6601124aDoor
