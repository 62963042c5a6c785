/-
  A cursor in a text; the tails of a function's code.
-/
import Derived.Test.Qxb6600799aDoorZz
import Derived.OwnWalk
namespace Go.Proofs.Qxb6600799aDoor
open Go.RowKit Go.Shelf
set_option linter.unusedVariables false

/-- At place i the text goes on with r. -/
def Cur (s : ByteArray) (i : Nat) (r : List UInt8) : Prop := i ≤ s.size ∧ s.data.toList.drop i = r

theorem Cur.nil {s : ByteArray} {i : Nat} (h : Cur s i []) : i = s.size := by
  obtain ⟨h1, h2⟩ := h
  have := congrArg List.length h2
  rw [List.length_drop, ba_len] at this
  simp at this; omega
theorem Cur.lt {s : ByteArray} {i : Nat} {c : UInt8} {r : List UInt8} (h : Cur s i (c :: r)) : i < s.size := by
  obtain ⟨h1, h2⟩ := h
  have := congrArg List.length h2
  rw [List.length_drop, ba_len] at this
  simp at this; omega
theorem Cur.get {s : ByteArray} {i : Nat} {c : UInt8} {r : List UInt8} (h : Cur s i (c :: r)) : s[i]'(h.lt) = c := by
  have h1 := List.drop_eq_getElem_cons (l := s.data.toList) (i := i) (by rw [ba_len]; exact h.lt)
  rw [h.2] at h1
  exact (List.cons.inj h1).1.symm
theorem Cur.next {s : ByteArray} {i : Nat} {c : UInt8} {r : List UInt8} (h : Cur s i (c :: r)) : Cur s (i + 1) r := by
  refine ⟨h.lt, ?_⟩
  have h1 := List.drop_eq_getElem_cons (l := s.data.toList) (i := i) (by rw [ba_len]; exact h.lt)
  rw [h.2] at h1
  exact (List.cons.inj h1).2.symm
theorem Cur.skip {s : ByteArray} {i : Nat} {r : List UInt8} (h : Cur s i r) (k : Nat) (hk : k ≤ r.length) : Cur s (i + k) (r.drop k) := by
  refine ⟨?_, by rw [← h.2, List.drop_drop]⟩
  have := congrArg List.length h.2
  rw [List.length_drop, ba_len] at this
  have := h.1
  omega
theorem Cur.start (s : ByteArray) : Cur s 0 s.data.toList := ⟨Nat.zero_le _, by simp⟩

theorem b8 (a c : UInt8) (n : Int) (hn : n = (c.toNat : Int)) : ((a.toNat : Int) == n) = (a == c) := by
  subst hn
  rw [Bool.eq_iff_iff, beq_iff_eq, beq_iff_eq]
  exact ⟨fun h => UInt8.toNat_inj.1 (by omega), fun h => by rw [h]⟩
theorem b8n (a c : UInt8) (n : Int) (hn : n = (c.toNat : Int)) : ((a.toNat : Int) != n) = (a != c) := by
  unfold bne; rw [b8 a c n hn]

theorem whole_len (r : List UInt8) : (Pl.whole r).length ≤ r.length := by
  unfold Pl.whole
  split
  · rename_i h
    cases r with
    | nil => simp at h
    | cons => simp
  · exact (List.takeWhile_prefix _).length_le
theorem whole_take (r : List UInt8) (hd : r.head?.any Pl.isDig = true) : r.take (Pl.whole r).length = Pl.whole r := by
  unfold Pl.whole
  split
  · rename_i h
    cases r with
    | nil => simp at h
    | cons c t => simp at h; subst h; rfl
  · exact Pl.take_run r
/-- A run of digits, place by place. -/
theorem drop_dig (r : List UInt8) (k : Nat) (hk : k ≤ (Pl.run r).length) :
    (k < (Pl.run r).length → ∃ d u, r.drop k = d :: u ∧ Pl.isDig d = true) ∧ ((Pl.run r).length ≤ k → ∀ d, (r.drop k).head? = some d → Pl.isDig d = false) := by
  constructor
  · intro h
    have hlen : (Pl.run r).length ≤ r.length := (List.takeWhile_prefix _).length_le
    refine ⟨r[k], r.drop (k + 1), List.drop_eq_getElem_cons (by omega), ?_⟩
    have h2 : (Pl.run r)[k]? = some r[k] := by
      rw [← Pl.take_run r, List.getElem?_take_of_lt h, List.getElem?_eq_getElem (by omega)]
    exact Pl.run_all r _ (List.mem_of_getElem? h2)
  · intro h d hd
    have : k = (Pl.run r).length := by omega
    rw [this, Pl.drop_run] at hd
    exact Pl.after_head r d hd

/-- What stands behind the sign. -/
theorem sign_cur (s : ByteArray) : (negB s = true → Cur s 1 (Pl.rest0 s.data.toList)) ∧ (negB s = false → Cur s 0 (Pl.rest0 s.data.toList)) := by
  have hcur := Cur.start s
  unfold Pl.rest0 negB
  constructor
  · intro h
    have h' : s.data.toList.head? = some 45 := by simpa using h
    rw [if_pos h']
    match hl : s.data.toList, h' with
    | c :: t, h' => rw [hl] at hcur; exact hcur.next
  · intro h
    have h' : ¬ s.data.toList.head? = some 45 := by simpa using h
    rw [if_neg h']; exact hcur


/-- The code behind the first n statements. -/
def nth : Nat → Code → Code
  | 0, c => c
  | n + 1, .seq _ b => nth n b
  | _ + 1, c => c
def nthO (n : Nat) : Option Code → Code
  | some c => nth n c
  | none => .ret
/-- The number of the first region. -/
def fstReg : Code → Nat
  | .region n _ _ => n
  | .seq a _ => fstReg a
  | _ => 9999
end Go.Proofs.Qxb6600799aDoor
