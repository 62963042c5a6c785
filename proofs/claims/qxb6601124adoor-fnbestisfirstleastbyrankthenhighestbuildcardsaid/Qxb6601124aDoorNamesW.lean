/-
  The walk of 'zzWheelNames'.
-/
import Derived.Test.Qxb6601124aDoorNames
namespace Go.Proofs.Qxb6601124aDoor
open Go.RowKit Go.Shelf
set_option linter.unusedVariables false

theorem nil_eq27 (A : Option Addr) (n c : Nat) (w : World) : (binOp .eql 27 (.slice A n c) (.slice none 0 0)).run Tryd.prog w = .ok (.bool A.isNone) w := by
  have := run_equal_slice_nil (P := Tryd.prog) w 27 58 A n c Tryd.underlying27
  simp only [binOp]
  simp [this]

/-- The worlds ahead of the call, and behind it. -/
def CN (wr : World) (A : Option Addr) (ts : List T) (bb : Bool) (w' : World) : Prop :=
  if bb = true then Below wr.heap.size wr w' ∧ TagsAt w' A ts else ∃ N, w' = wr.drewN N
theorem CN.below {wr : World} {A : Option Addr} {ts : List T} {bb : Bool} {w' : World} (h : CN wr A ts bb w') : Below wr.heap.size wr w' := by
  unfold CN at h
  cases bb with
  | true => rw [if_pos rfl] at h; exact h.1
  | false =>
    rw [if_neg (by decide)] at h
    obtain ⟨N, rfl⟩ := h
    exact bdrew (Below.refl _ _) N
theorem InC.cell {wr : World} {A : Option Addr} {ts : List T} (p : InC (CN wr A ts)) {q : Addr} {v : Value} (hq : q.block < wr.heap.size) (h : wr.cell? q = some v) : p.val.cell? q = some v := by
  obtain ⟨b, hb⟩ := p.ok
  exact (hb.below.cell hq).trans h

/-- What lies in memory behind k copies. -/
structure NRel (ns : List Nm) (w : World) (k : Nat) (S : Nat → Option Addr × Nat) (wr : World) : Prop where
  row : wr.rowIs w.heap.size 39 (ns.length * 4) (rowN ns S k)
  below : Below w.heap.size w wr
  tags : ∀ j n, j < k → ns[j]? = some n → TagsAt wr (S j).1 n.tags ∧ ∀ b o, (S j).1 = some ⟨b, o, none⟩ → b ≠ w.heap.size

set_option maxRecDepth 100000 in
set_option maxHeartbeats 4000000 in
theorem names_some (a : Addr) (c : Nat) (ns : List Nm) (w : World) (hn : ns.length ≤ 1048576) (htl : ∀ n ∈ ns, n.tags.length ≤ 1048576) (hX : NamesAt w (some a) ns) :
    Calls Tryd.prog 18 #[.slice (some a) ns.length c] w fun e w' => e = .returned (.slice (some ⟨w.heap.size, 0, none⟩) ns.length ns.length) ∧ NamesAt w' (some ⟨w.heap.size, 0, none⟩) ns ∧ Below w.heap.size w w' := by
  have hmk := make_names ns.length hn
  have hnil := fun w => nil_eq27 (some a) ns.length c w
  have HX := hid_mk hX
  have HTL := hid_mk htl
  clear hX htl
  go_enter Tryd.func18, Tryd.ntmps18
  go_wp2_with fail
  go_loopg [4] ns.length (fun gf x wr => ∃ (k : Nat) (S : Nat → Option Addr × Nat), k + gf = ns.length ∧ x = .int .i64 k ∧ NRel ns w k S wr)
  case atStart => exact ⟨0, fun _ => (none, 0), by omega, rfl, rowN_start ns _ w, (Below.refl _ _).alloc (Nat.le_refl _) _, fun j n h => by omega⟩
  case round =>
    obtain ⟨k, S, hkg, rfl, hR⟩ := hrel
    have hrow := hR.row
    have hbel := hR.below
    have hsz := hrow.lt
    have HR := hid_mk hR
    clear hR
    by_cases hk : k < ns.length
    · obtain ⟨g', rfl⟩ : ∃ g', gk = g' + 1 := ⟨gk - 1, by omega⟩
      obtain ⟨n, hnk⟩ : ∃ n, ns[k]? = some n := ⟨_, List.getElem?_eq_getElem hk⟩
      have HNK := hid_mk hnk
      obtain ⟨b, o, A2, c2, e, hlt, a0, a1, a2, a3, ht⟩ := HX.out.below hbel k n hnk
      obtain rfl : a = ⟨b, o, none⟩ := Option.some.inj e
      have ix : (0 : Int) ≤ (k : Int) ∧ (k : Int) < (ns.length : Int) := by omega
      have HTG := hid_mk ht
      clear e hnk
      obtain ⟨c3, hv⟩ := copyV_eq A2 wr.heap.size n.tags (fun e => (by subst e; exact ht.nil_of))
      have HV := hid_mk hv
      obtain ⟨A3, hA3⟩ : ∃ A3, copyA A2 wr.heap.size = A3 := ⟨_, rfl⟩
      rw [hA3] at HV
      have HA3 := hid_mk hA3
      clear hA3 hv ht
      obtain ⟨C, hC⟩ : ∃ C, CN wr A3 n.tags = C := ⟨_, rfl⟩
      have hne : Nonempty (InC C) := ⟨⟨wr.drewN 0, false, by rw [← hC]; exact ⟨0, rfl⟩⟩⟩
      have q0 : ∀ p : InC C, p.val.cell? ⟨b, o + k * 4, none⟩ = some (.string n.pr) := by rw [← hC]; exact fun p => p.cell hlt a0
      have q1 : ∀ p : InC C, p.val.cell? ⟨b, o + k * 4 + 1, none⟩ = some (.string n.ve) := by rw [← hC]; exact fun p => p.cell hlt a1
      have q2 : ∀ p : InC C, p.val.cell? ⟨b, o + k * 4 + 2, none⟩ = some (.string n.bu) := by rw [← hC]; exact fun p => p.cell hlt a2
      have q3 : ∀ p : InC C, p.val.cell? ⟨b, o + k * 4 + 3, none⟩ = some (.slice A2 n.tags.length c2) := by rw [← hC]; exact fun p => p.cell hlt a3
      have HC := hid_mk hC
      clear hC hrow
      go_wp2_with fail
      refine wp_region_two (C := C) 25 22 (by kernel_rfl) (by kernel_rfl) (by decide) ?_ ?_ ?_
      · intro o2 tm ho2
        obtain rfl := Option.some.inj ho2
        rfl
      · rw [← HC.out]; exact ⟨1, rfl⟩
      refine walkR_add 3 22 0 _ ?_
      refine walkR_part 22 0 (by kernel_rfl) ?_
      simp only [List.drop_zero, List.take_succ_cons, List.take_zero]
      repeat (quiet_step (fail))
      refine wpQuiet_nil ?_
      refine walkR_call 2 _ (.slice A3 n.tags.length c3) rfl (fun _ => rfl) ?_ ?_
      · intro w0 hw0
        refine ⟨19, #[.slice A2 n.tags.length c2], ?_, ?_⟩
        · go_simp
        · rw [← HC.out] at hw0 ⊢
          obtain ⟨N, rfl⟩ := hw0
          refine (tags_any A2 c2 n.tags (wr.drewN N) (HTL.out n (List.mem_of_getElem? HNK.out)) (HTG.out.below (bdrew (Below.refl _ _) N))).mono ?_
          rintro e w1 ⟨rfl, h1, h2⟩
          have h1' : TagsAt w1 (copyA A2 wr.heap.size) n.tags := h1
          rw [HA3.out] at h1'
          exact ⟨congrArg Ending.returned HV.out, (bdrew (Below.refl _ _) N).trans h2, h1'⟩
      refine walkR_part 2 23 (by kernel_rfl) ?_
      simp only [List.getElem_toArray, List.getElem_cons_succ, List.getElem_cons_zero, Act.put, List.drop_succ_cons, List.drop_zero, List.take_succ_cons, List.take_zero]
      repeat (quiet_step (fail))
      refine wpQuiet_nil ?_
      intro w1 hw1
      rw [← HC.out] at hw1
      obtain ⟨hb1, ht1⟩ := hw1
      have hrow1 : w1.rowIs w.heap.size 39 (ns.length * 4) (rowN ns S k) := HR.out.row.of_block (hb1.block _ hsz)
      have r0 := hrow1.cell (i := k * 4) (by omega)
      have r1 := hrow1.cell (i := k * 4 + 1) (by omega)
      have r2 := hrow1.cell (i := k * 4 + 2) (by omega)
      have r3 := hrow1.cell (i := k * 4 + 3) (by omega)
      have f0 := hrow1.frozen (k * 4)
      have f1 := hrow1.frozen (k * 4 + 1)
      have f2 := hrow1.frozen (k * 4 + 2)
      have f3 := hrow1.frozen (k * 4 + 3)
      clear q0 q1 q2 q3
      go_wp2_with fail
      go_roundg g'
      case measure => omega
      case rel =>
        have hR := HR.out
        refine ⟨k + 1, fun j => if j = k then (A3, c3) else S j, by omega, by go_num, ?_, ?_, ?_⟩
        · exact ((((hrow1.set (k * 4) _).set (k * 4 + 1) _).set (k * 4 + 2) _).set (k * 4 + 3) _).congr (fun i hi => rowN_next A3 c3 HNK.out i)
        · have hbb : Below w.heap.size w w1 := hR.below.trans (hb1.mono hR.below.size)
          exact (((hbb.setCell (p := ⟨w.heap.size, k * 4, none⟩) (Nat.le_refl _) _).setCell (p := ⟨w.heap.size, k * 4 + 1, none⟩) (Nat.le_refl _) _).setCell (p := ⟨w.heap.size, k * 4 + 2, none⟩) (Nat.le_refl _) _).setCell (p := ⟨w.heap.size, k * 4 + 3, none⟩) (Nat.le_refl _) _
        · intro j n' hj hn'
          have key : TagsAt w1 (if j = k then (A3, c3) else S j).1 n'.tags ∧ ∀ b o, (if j = k then (A3, c3) else S j).1 = some ⟨b, o, none⟩ → b ≠ w.heap.size := by
            by_cases ej : j = k
            · rw [if_pos ej]
              rw [ej, HNK.out] at hn'
              obtain rfl := Option.some.inj hn'
              refine ⟨ht1, fun b o hb => ?_⟩
              have h3 := HA3.out
              cases A2 with
              | none => rw [← h3] at hb; cases hb
              | some a2 =>
                rw [← h3] at hb
                have : wr.heap.size = b := congrArg Addr.block (Option.some.inj hb)
                omega
            · rw [if_neg ej]
              obtain ⟨t1, t2⟩ := hR.tags j n' (by omega) hn'
              exact ⟨t1.below hb1, t2⟩
          refine ⟨?_, key.2⟩
          exact (((key.1.setOther ⟨w.heap.size, k * 4, none⟩ _ key.2).setOther ⟨w.heap.size, k * 4 + 1, none⟩ _ key.2).setOther ⟨w.heap.size, k * 4 + 2, none⟩ _ key.2).setOther ⟨w.heap.size, k * 4 + 3, none⟩ _ key.2
    · clear hrow
      go_wp2_with fail
      go_ret
      have hR := HR.out
      refine ⟨rfl, fun j n hj => ?_, hR.below⟩
      have hjl : j < ns.length := (List.getElem?_eq_some_iff.1 hj).1
      obtain ⟨z0, z1, z2, z3⟩ := rowN_at (S := S) (k := k) hj (by omega)
      refine ⟨w.heap.size, 0, (S j).1, (S j).2, rfl, hR.row.lt, ?_, ?_, ?_, ?_, (hR.tags j n (by omega) hj).1⟩
      · rw [Nat.zero_add, hR.row.cell (by omega), z0]
      · rw [Nat.zero_add, hR.row.cell (by omega), z1]
      · rw [Nat.zero_add, hR.row.cell (by omega), z2]
      · rw [Nat.zero_add, hR.row.cell (by omega), z3]

set_option maxRecDepth 100000 in
set_option maxHeartbeats 1000000 in
/-- **A deep copy, in new memory.** -/
theorem names_any (A : Option Addr) (c : Nat) (ns : List Nm) (w : World) (hn : ns.length ≤ 1048576) (htl : ∀ n ∈ ns, n.tags.length ≤ 1048576) (hX : NamesAt w A ns) :
    Calls Tryd.prog 18 #[.slice A ns.length c] w fun e w' => ∃ A' c', e = .returned (.slice A' ns.length c') ∧ NamesAt w' A' ns ∧ Below w.heap.size w w' := by
  cases A with
  | some a => exact (names_some a c ns w hn htl hX).mono fun e w' ⟨h1, h2, h3⟩ => ⟨_, _, h1, h2, h3⟩
  | none =>
    have hns : ns = [] := by
      cases ns with
      | nil => rfl
      | cons t l =>
        obtain ⟨b, o, A2, c2, e, _⟩ := hX 0 t rfl
        cases e
    subst hns
    have hnil : ∀ w : World, (binOp .eql 27 (.slice none 0 c) (.slice none 0 0)).run Tryd.prog w = .ok (.bool true) w := fun w => nil_eq27 none 0 c w
    show Calls Tryd.prog 18 #[.slice none 0 c] w _
    go_enter Tryd.func18, Tryd.ntmps18
    go_wp2_with fail
    go_ret
    exact ⟨none, 0, rfl, fun j t ht => by simp at ht, Below.refl _ _⟩
end Go.Proofs.Qxb6601124aDoor
