/-
  The walk of 'zzWheelTags': a copy of the tags.
-/
import Derived.Test.Qxb6601124aDoorTags
import Derived.Deep.OwnRows
import Derived.RegionTactic
import Derived.BigRegion
import Derived.Laws.Cover3
namespace Go.Proofs.Qxb6601124aDoor
open Go.RowKit Go.Shelf
set_option linter.unusedVariables false

theorem Tryd.info63 : (Tryd.prog.info? 63).map (fun i => (i.zero, i.size, i.bytes)) = some (some (.agg #[.string ⟨#[]⟩, .string ⟨#[]⟩, .string ⟨#[]⟩]), 3, 48) := by kernel_rfl

theorem make_tags (n : Nat) (hn : n ≤ 1048576) (w : World) : (Instr.makeSlice 32 (.int .i64 (n : Int)) (.int .i64 (n : Int))).run Tryd.prog w = .ok (.slice (some ⟨w.heap.size, 0, none⟩) n n) (w.alloc (.cells (madeCells #[.string ⟨#[]⟩, .string ⟨#[]⟩, .string ⟨#[]⟩] (n * 3)) 63)) := by
  obtain ⟨i, hi, hzz⟩ := Option.map_eq_some_iff.1 Tryd.info63
  simp only [Prod.mk.injEq] at hzz
  obtain ⟨hz, hs, hb⟩ := hzz
  have hr := run_make (P := Tryd.prog) w 32 63 i _ Tryd.underlying32 hi hz .i64 .i64 n n (by omega) (Int.le_refl _) (by rw [hb]; omega) (by omega)
  rw [hs] at hr
  simp only [Int.toNat_natCast] at hr
  exact hr

/-- The new row behind k copies. -/
def rowF (ts : List T) (k i : Nat) : Value :=
  match ts[i / 3]? with
  | some t => if i / 3 < k then (if i % 3 = 0 then .string t.p else if i % 3 = 1 then .string t.a else .string t.l) else .string ⟨#[]⟩
  | none => .string ⟨#[]⟩

theorem rowF_zero (ts : List T) (i : Nat) : rowF ts 0 i = .string ⟨#[]⟩ := by
  unfold rowF
  split
  · rw [if_neg (by omega)]
  · rfl
theorem rowF_at {ts : List T} {j k : Nat} {t : T} (h : ts[j]? = some t) (hj : j < k) : rowF ts k (j * 3) = .string t.p ∧ rowF ts k (j * 3 + 1) = .string t.a ∧ rowF ts k (j * 3 + 2) = .string t.l := by
  have e0 : j * 3 / 3 = j := by omega
  have e1 : (j * 3 + 1) / 3 = j := by omega
  have e2 : (j * 3 + 2) / 3 = j := by omega
  unfold rowF
  rw [e0, e1, e2, h]
  refine ⟨?_, ?_, ?_⟩
  · show (if j < k then _ else _) = _
    rw [if_pos hj, if_pos (by omega)]
  · show (if j < k then _ else _) = _
    rw [if_pos hj, if_neg (by omega), if_pos (by omega)]
  · show (if j < k then _ else _) = _
    rw [if_pos hj, if_neg (by omega), if_neg (by omega)]
theorem rowF_next {ts : List T} {k : Nat} {t : T} (h : ts[k]? = some t) (i : Nat) :
    (if i = k * 3 + 2 then Value.string t.l else if i = k * 3 + 1 then .string t.a else if i = k * 3 then .string t.p else rowF ts k i) = rowF ts (k + 1) i := by
  obtain ⟨h0, h1, h2⟩ := rowF_at (k := k + 1) h (by omega)
  by_cases e2 : i = k * 3 + 2
  · rw [if_pos e2, e2, h2]
  · rw [if_neg e2]
    by_cases e1 : i = k * 3 + 1
    · rw [if_pos e1, e1, h1]
    · rw [if_neg e1]
      by_cases e0 : i = k * 3
      · rw [if_pos e0, e0, h0]
      · rw [if_neg e0]
        have hne : i / 3 ≠ k := by omega
        unfold rowF
        split
        · simp only [show (i / 3 < k) = (i / 3 < k + 1) from propext (by omega)]
        · rfl

theorem made3 (a : Value) (n i : Nat) (h : i < n) : (madeCells #[a, a, a] n)[i]? = some a := by
  have hm : i % 3 < 3 := Nat.mod_lt _ (by omega)
  simp only [madeCells, Array.getElem?_map, Array.getElem?_range, h, if_true, Option.map_some]
  show some (#[a, a, a][i % 3]!) = _
  match hq : i % 3, hm with
  | 0, _ => rfl
  | 1, _ => rfl
  | 2, _ => rfl

theorem rowF_start (ts : List T) (w : World) : (w.alloc (.cells (madeCells #[.string ⟨#[]⟩, .string ⟨#[]⟩, .string ⟨#[]⟩] (ts.length * 3)) 63)).rowIs w.heap.size 63 (ts.length * 3) (rowF ts 0) := by
  have h := World.rowIs_alloc w (madeCells #[.string ⟨#[]⟩, .string ⟨#[]⟩, .string ⟨#[]⟩] (ts.length * 3)) 63 (rowF ts 0) (fun i hi => by
    rw [size_madeCells] at hi
    rw [made3 _ _ _ hi, rowF_zero])
  rw [size_madeCells] at h
  exact h

theorem nil_eq (A : Option Addr) (n c : Nat) (w : World) : (binOp .eql 28 (.slice A n c) (.slice none 0 0)).run Tryd.prog w = .ok (.bool A.isNone) w := by
  have := run_equal_slice_nil (P := Tryd.prog) w 28 60 A n c Tryd.underlying28
  simp only [binOp]
  simp [this]

set_option maxRecDepth 100000 in
set_option maxHeartbeats 2000000 in
theorem tags_some (a : Addr) (c : Nat) (ts : List T) (w : World) (hn : ts.length ≤ 1048576) (hX : TagsAt w (some a) ts) :
    Calls Tryd.prog 19 #[.slice (some a) ts.length c] w fun e w' => e = .returned (.slice (some ⟨w.heap.size, 0, none⟩) ts.length ts.length) ∧ TagsAt w' (some ⟨w.heap.size, 0, none⟩) ts ∧ Below w.heap.size w w' := by
  have hmk := make_tags ts.length hn
  have hnil := fun w => nil_eq (some a) ts.length c w
  have HX := hid_mk hX
  clear hX
  go_enter Tryd.func19, Tryd.ntmps19
  go_wp2_with fail
  go_loopg [4] ts.length (fun gf x wr => ∃ k : Nat, k + gf = ts.length ∧ x = .int .i64 k ∧ wr.rowIs w.heap.size 63 (ts.length * 3) (rowF ts k) ∧ Below w.heap.size w wr)
  case atStart => exact ⟨0, by omega, rfl, rowF_start ts w, (Below.refl _ _).alloc (Nat.le_refl _) _⟩
  case round =>
    obtain ⟨k, hkg, rfl, hrow, hbel⟩ := hrel
    by_cases hk : k < ts.length
    · obtain ⟨g', rfl⟩ : ∃ g', gk = g' + 1 := ⟨gk - 1, by omega⟩
      obtain ⟨t, ht⟩ : ∃ t, ts[k]? = some t := ⟨_, List.getElem?_eq_getElem hk⟩
      obtain ⟨b, o, e, hlt, a0, a1, a2⟩ := HX.out.below hbel k t ht
      obtain rfl : a = ⟨b, o, none⟩ := Option.some.inj e
      have ix : (0 : Int) ≤ (k : Int) ∧ (k : Int) < (ts.length : Int) := by omega
      have r0 := hrow.cell (i := k * 3) (by omega)
      have r1 := hrow.cell (i := k * 3 + 1) (by omega)
      have r2 := hrow.cell (i := k * 3 + 2) (by omega)
      have f0 := hrow.frozen (k * 3)
      have f1 := hrow.frozen (k * 3 + 1)
      have f2 := hrow.frozen (k * 3 + 2)
      have HT := hid_mk ht
      clear e ht
      go_wp2_with fail
      go_region
      go_wp2_with fail
      go_roundg g'
      case measure => omega
      case rel =>
        refine ⟨k + 1, by omega, by go_num, ?_, ?_⟩
        · exact (((hrow.set (k * 3) _).set (k * 3 + 1) _).set (k * 3 + 2) _).congr (fun i hi => rowF_next HT.out i)
        · exact (((hbel.setCell (p := ⟨w.heap.size, k * 3, none⟩) (Nat.le_refl _) _).setCell (p := ⟨w.heap.size, k * 3 + 1, none⟩) (Nat.le_refl _) _).setCell (p := ⟨w.heap.size, k * 3 + 2, none⟩) (Nat.le_refl _) _).drew
    · go_wp2_with fail
      go_ret
      refine ⟨rfl, fun j t ht => ?_, hbel⟩
      have hj : j < ts.length := (List.getElem?_eq_some_iff.1 ht).1
      obtain ⟨q0, q1, q2⟩ := rowF_at (k := k) ht (by omega)
      refine ⟨w.heap.size, 0, rfl, hrow.lt, ?_, ?_, ?_⟩
      · rw [Nat.zero_add, hrow.cell (by omega), q0]
      · rw [Nat.zero_add, hrow.cell (by omega), q1]
      · rw [Nat.zero_add, hrow.cell (by omega), q2]

/-- The slice that 'zzWheelTags' hands back, called where h blocks lie. -/
def copyA : Option Addr → Nat → Option Addr
  | none, _ => none
  | some _, h => some ⟨h, 0, none⟩
def copyV (A : Option Addr) (h n : Nat) : Value :=
  match A with
  | none => .slice none 0 0
  | some _ => .slice (some ⟨h, 0, none⟩) n n

set_option maxRecDepth 100000 in
set_option maxHeartbeats 1000000 in
theorem tags_any (A : Option Addr) (c : Nat) (ts : List T) (w : World) (hn : ts.length ≤ 1048576) (hX : TagsAt w A ts) :
    Calls Tryd.prog 19 #[.slice A ts.length c] w fun e w' => e = .returned (copyV A w.heap.size ts.length) ∧ TagsAt w' (copyA A w.heap.size) ts ∧ Below w.heap.size w w' := by
  cases A with
  | some a => exact tags_some a c ts w hn hX
  | none =>
    have hts : ts = [] := by
      cases ts with
      | nil => rfl
      | cons t l =>
        obtain ⟨b, o, e, _⟩ := hX 0 t rfl
        cases e
    subst hts
    have hnil : ∀ w : World, (binOp .eql 28 (.slice none 0 c) (.slice none 0 0)).run Tryd.prog w = .ok (.bool true) w := fun w => nil_eq none 0 c w
    show Calls Tryd.prog 19 #[.slice none 0 c] w _
    go_enter Tryd.func19, Tryd.ntmps19
    go_wp2_with fail
    go_ret
    exact ⟨rfl, fun j t ht => by simp at ht, Below.refl _ _⟩
theorem copyV_eq (A : Option Addr) (h : Nat) (ts : List T) (hA : A = none → ts = []) : ∃ c, copyV A h ts.length = .slice (copyA A h) ts.length c := by
  cases A with
  | some a => exact ⟨_, rfl⟩
  | none => rw [hA rfl]; exact ⟨0, rfl⟩
theorem TagsAt.nil_of {w : World} {ts : List T} (h : TagsAt w none ts) : ts = [] := by
  cases ts with
  | nil => rfl
  | cons t l =>
    obtain ⟨b, o, e, _⟩ := h 0 t rfl
    cases e
theorem TagsAt.setOther {w : World} {A : Option Addr} {ts : List T} (h : TagsAt w A ts) (p : Addr) (v : Value) (hp : ∀ b o, A = some ⟨b, o, none⟩ → b ≠ p.block) : TagsAt (w.setCell p v) A ts := fun j t ht => by
  obtain ⟨b, o, e, hlt, h0, h1, h2⟩ := h j t ht
  have hb := hp b o e
  refine ⟨b, o, e, ?_, ?_, ?_, ?_⟩
  · exact Nat.lt_of_lt_of_le hlt ((Below.refl p.block w).setCell (p := p) (Nat.le_refl _) v).size
  · rw [World.cell?_setCell_other _ _ _ _ (fun e2 => hb (congrArg Addr.block e2).symm)]; exact h0
  · rw [World.cell?_setCell_other _ _ _ _ (fun e2 => hb (congrArg Addr.block e2).symm)]; exact h1
  · rw [World.cell?_setCell_other _ _ _ _ (fun e2 => hb (congrArg Addr.block e2).symm)]; exact h2
end Go.Proofs.Qxb6601124aDoor
