/-
  The walk of 'zzWheelNames': a deep copy of the wheels' names.
-/
import Derived.Test.Qxb6601124aDoorCopy
import Derived.Test.Qxb6601124aDoorBridge
namespace Go.Proofs.Qxb6601124aDoor
open Go.RowKit Go.Shelf
set_option linter.unusedVariables false

/-- One wheel's name. -/
structure Nm where
  pr : ByteArray
  ve : ByteArray
  bu : ByteArray
  tags : List T

/-- The names ns lie behind a slice's address. -/
def NamesAt (w : World) (A : Option Addr) (ns : List Nm) : Prop :=
  ∀ (j : Nat) n, ns[j]? = some n → ∃ (b o : Nat) (A2 : Option Addr) (c2 : Nat), A = some ⟨b, o, none⟩ ∧ b < w.heap.size ∧
    w.cell? ⟨b, o + j * 4, none⟩ = some (.string n.pr) ∧ w.cell? ⟨b, o + j * 4 + 1, none⟩ = some (.string n.ve) ∧ w.cell? ⟨b, o + j * 4 + 2, none⟩ = some (.string n.bu) ∧
    w.cell? ⟨b, o + j * 4 + 3, none⟩ = some (.slice A2 n.tags.length c2) ∧ TagsAt w A2 n.tags

theorem NamesAt.below {w w' : World} {A : Option Addr} {ns : List Nm} (h : NamesAt w A ns) (hb : Below w.heap.size w w') : NamesAt w' A ns := fun j n hn => by
  obtain ⟨b, o, A2, c2, hv, hlt, h0, h1, h2, h3, ht⟩ := h j n hn
  exact ⟨b, o, A2, c2, hv, Nat.lt_of_lt_of_le hlt hb.size, (hb.cell (p := ⟨b, o + j * 4, none⟩) hlt).trans h0, (hb.cell (p := ⟨b, o + j * 4 + 1, none⟩) hlt).trans h1, (hb.cell (p := ⟨b, o + j * 4 + 2, none⟩) hlt).trans h2, (hb.cell (p := ⟨b, o + j * 4 + 3, none⟩) hlt).trans h3, ht.below hb⟩

theorem Tryd.info39 : (Tryd.prog.info? 39).map (fun i => (i.zero, i.size, i.bytes)) = some (some (.agg #[.string ⟨#[]⟩, .string ⟨#[]⟩, .string ⟨#[]⟩, .slice none 0 0]), 4, 72) := by kernel_rfl

theorem make_names (n : Nat) (hn : n ≤ 1048576) (w : World) : (Instr.makeSlice 30 (.int .i64 (n : Int)) (.int .i64 (n : Int))).run Tryd.prog w = .ok (.slice (some ⟨w.heap.size, 0, none⟩) n n) (w.alloc (.cells (madeCells #[.string ⟨#[]⟩, .string ⟨#[]⟩, .string ⟨#[]⟩, .slice none 0 0] (n * 4)) 39)) := by
  obtain ⟨i, hi, hzz⟩ := Option.map_eq_some_iff.1 Tryd.info39
  simp only [Prod.mk.injEq] at hzz
  obtain ⟨hz, hs, hb⟩ := hzz
  have hr := run_make (P := Tryd.prog) w 30 39 i _ Tryd.underlying30 hi hz .i64 .i64 n n (by omega) (Int.le_refl _) (by rw [hb]; omega) (by omega)
  rw [hs] at hr
  simp only [Int.toNat_natCast] at hr
  exact hr

/-- The zero row. -/
def zeroN (i : Nat) : Value := if i % 4 = 3 then .slice none 0 0 else .string ⟨#[]⟩
/-- The new row behind k copies; S: where the copies of the tags lie. -/
def rowN (ns : List Nm) (S : Nat → Option Addr × Nat) (k i : Nat) : Value :=
  match ns[i / 4]? with
  | some n => if i / 4 < k then (if i % 4 = 0 then .string n.pr else if i % 4 = 1 then .string n.ve else if i % 4 = 2 then .string n.bu else .slice (S (i / 4)).1 n.tags.length (S (i / 4)).2) else zeroN i
  | none => zeroN i

theorem rowN_zero (ns : List Nm) (S : Nat → Option Addr × Nat) (i : Nat) : rowN ns S 0 i = zeroN i := by
  unfold rowN
  split
  · rw [if_neg (by omega)]
  · rfl
theorem rowN_at {ns : List Nm} {S : Nat → Option Addr × Nat} {j k : Nat} {n : Nm} (h : ns[j]? = some n) (hj : j < k) :
    rowN ns S k (j * 4) = .string n.pr ∧ rowN ns S k (j * 4 + 1) = .string n.ve ∧ rowN ns S k (j * 4 + 2) = .string n.bu ∧ rowN ns S k (j * 4 + 3) = .slice (S j).1 n.tags.length (S j).2 := by
  have e0 : j * 4 / 4 = j := by omega
  have e1 : (j * 4 + 1) / 4 = j := by omega
  have e2 : (j * 4 + 2) / 4 = j := by omega
  have e3 : (j * 4 + 3) / 4 = j := by omega
  unfold rowN
  rw [e0, e1, e2, e3, h]
  refine ⟨?_, ?_, ?_, ?_⟩
  · show (if j < k then _ else _) = _
    rw [if_pos hj, if_pos (by omega)]
  · show (if j < k then _ else _) = _
    rw [if_pos hj, if_neg (by omega), if_pos (by omega)]
  · show (if j < k then _ else _) = _
    rw [if_pos hj, if_neg (by omega), if_neg (by omega), if_pos (by omega)]
  · show (if j < k then _ else _) = _
    rw [if_pos hj, if_neg (by omega), if_neg (by omega), if_neg (by omega)]
theorem rowN_next {ns : List Nm} {S : Nat → Option Addr × Nat} {k : Nat} {n : Nm} (A : Option Addr) (c : Nat) (h : ns[k]? = some n) (i : Nat) :
    (if i = k * 4 + 3 then Value.slice A n.tags.length c else if i = k * 4 + 2 then .string n.bu else if i = k * 4 + 1 then .string n.ve else if i = k * 4 then .string n.pr else rowN ns S k i) = rowN ns (fun j => if j = k then (A, c) else S j) (k + 1) i := by
  obtain ⟨h0, h1, h2, h3⟩ := rowN_at (S := fun j => if j = k then (A, c) else S j) (k := k + 1) h (by omega)
  rw [if_pos rfl] at h3
  by_cases e3 : i = k * 4 + 3
  · rw [if_pos e3, e3, h3]
  · rw [if_neg e3]
    by_cases e2 : i = k * 4 + 2
    · rw [if_pos e2, e2, h2]
    · rw [if_neg e2]
      by_cases e1 : i = k * 4 + 1
      · rw [if_pos e1, e1, h1]
      · rw [if_neg e1]
        by_cases e0 : i = k * 4
        · rw [if_pos e0, e0, h0]
        · rw [if_neg e0]
          have hne : i / 4 ≠ k := by omega
          unfold rowN
          simp only [if_neg hne]
          split
          · simp only [show (i / 4 < k) = (i / 4 < k + 1) from propext (by omega)]
          · rfl

theorem made4 (a b : Value) (n i : Nat) (h : i < n) : (madeCells #[a, a, a, b] n)[i]? = some (if i % 4 = 3 then b else a) := by
  have hm : i % 4 < 4 := Nat.mod_lt _ (by omega)
  simp only [madeCells, Array.getElem?_map, Array.getElem?_range, h, if_true, Option.map_some]
  show some (#[a, a, a, b][i % 4]!) = _
  match hq : i % 4, hm with
  | 0, _ => rfl
  | 1, _ => rfl
  | 2, _ => rfl
  | 3, _ => rfl

theorem rowN_start (ns : List Nm) (S : Nat → Option Addr × Nat) (w : World) : (w.alloc (.cells (madeCells #[.string ⟨#[]⟩, .string ⟨#[]⟩, .string ⟨#[]⟩, .slice none 0 0] (ns.length * 4)) 39)).rowIs w.heap.size 39 (ns.length * 4) (rowN ns S 0) := by
  have h := World.rowIs_alloc w (madeCells #[.string ⟨#[]⟩, .string ⟨#[]⟩, .string ⟨#[]⟩, .slice none 0 0] (ns.length * 4)) 39 (rowN ns S 0) (fun i hi => by
    rw [size_madeCells] at hi
    rw [made4 _ _ _ _ hi, rowN_zero]; rfl)
  rw [size_madeCells] at h
  exact h
end Go.Proofs.Qxb6601124aDoor
