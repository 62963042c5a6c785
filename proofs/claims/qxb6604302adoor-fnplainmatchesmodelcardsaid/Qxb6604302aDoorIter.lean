/-
  The iterator that strings.SplitSeq hands back, at one slash as the separator: its walk.
-/
import Derived.RangeFuncNested
import Derived.RangeFuncBound
import Derived.RangeFuncCalls
import Derived.RangeFuncLeaves
import Derived.Shelf.Abstract
import Derived.WalkKit
import Derived.OwnWalkIn
import Derived.TacticsInMore
import Derived.LoopNIn
import Derived.LoopIn
import Derived.Outline
import Derived.Test.Qxb6604302aDoorShelf
import Derived.Test.Qxb6604302aDoorSub
namespace Go.Proofs.Qxb6604302aDoor
open Go.RowKit Go.Shelf
attribute [local go_sem] Oper.semAt_some

/-- What lies in memory while the loop is under way: the result's box, the three boxes of the iterator. -/
structure St (w0 : World) (cur : ByteArray) (W : World) : Prop where
  below : Below w0.heap.size w0 W
  res : W.cell? ⟨w0.heap.size, 0, none⟩ = some (.bool false)
  resF : W.frozen? ⟨w0.heap.size, 0, none⟩ = false
  s : W.cell? ⟨w0.heap.size + 1, 0, none⟩ = some (.string cur)
  sF : W.frozen? ⟨w0.heap.size + 1, 0, none⟩ = false
  sep : W.cell? ⟨w0.heap.size + 1 + 1, 0, none⟩ = some (.string ⟨#[47]⟩)
  save : W.cell? ⟨w0.heap.size + 1 + 1 + 1, 0, none⟩ = some (.int .i64 0)

theorem St.grown {w0 : World} {cur : ByteArray} {W W' : World} {row : Option Nat} (h : St w0 cur W) (hg : W.grownBy W' row)
    (hr : ∀ r, row = some r → w0.heap.size ≤ r ∧ ∃ o : Obj, W.heap[r]? = some o ∧ o.isCells = false) : St w0 cur W' where
  below := h.below.grown hg (h.below.size) (fun k e => (hr k e).1)
  res := cell_kept h.res hg (fun r e => (hr r e).2)
  resF := (frozen_kept h.res hg (fun r e => (hr r e).2)).trans h.resF
  s := cell_kept h.s hg (fun r e => (hr r e).2)
  sF := (frozen_kept h.s hg (fun r e => (hr r e).2)).trans h.sF
  sep := cell_kept h.sep hg (fun r e => (hr r e).2)
  save := cell_kept h.save hg (fun r e => (hr r e).2)

theorem St.set {w0 : World} {cur : ByteArray} {W : World} (h : St w0 cur W) (c : ByteArray) : St w0 c (W.setCell ⟨w0.heap.size + 1, 0, none⟩ (.string c)) where
  below := h.below.setCell (p := ⟨w0.heap.size + 1, 0, none⟩) (by simp) _
  res := by rw [World.cell?_setCell_other _ _ _ _ (by simp)]; exact h.res
  resF := by rw [World.frozen?_setCell]; exact h.resF
  s := World.cell?_setCell_same' _ _ _ (by rw [h.s]; rfl)
  sF := by rw [World.frozen?_setCell]; exact h.sF
  sep := by rw [World.cell?_setCell_other _ _ _ _ (by simp)]; exact h.sep
  save := by rw [World.cell?_setCell_other _ _ _ _ (by simp)]; exact h.save

/-- How much of the text is left. -/
def leftOf (w0 : World) (W : World) : Nat := match W.cell? ⟨w0.heap.size + 1, 0, none⟩ with
  | some (.string c) => c.size
  | _ => 0
theorem leftOf_eq {w0 : World} {cur : ByteArray} {W : World} (h : St w0 cur W) : leftOf w0 W = cur.size := by
  unfold leftOf; rw [h.s]

theorem ba_from (s : ByteArray) (k : Nat) : (s.extract k s.size).data.toList = s.data.toList.drop k := by
  rw [Lib.extract_data, List.take_of_length_le (by rw [List.length_drop, ba_len]; exact Nat.le_refl _)]

set_option maxRecDepth 100000 in
set_option maxHeartbeats 1000000 in
theorem iter_in (n : Nat) (hn : 2 ≤ n) (l : Nat) (w0 W : World) (s0 : ByteArray) (hs : s0.size ≤ 2097152) (h0 : St w0 s0 W)
    (J : World → Prop) (Jx : World → Prop) (hJ : J W) (hJs : ∀ A v, J A → J (A.setCell ⟨w0.heap.size + 1, 0, none⟩ v))
    (hY1 : ∀ x cur W1, St w0 cur W1 → J W1 → Pl.good x.data.toList = true → YieldAt Fence.wide (n - 1) Tryd.prog l #[.string x] W1 fun e W' => e = .returned (.bool true) ∧ W' = W1)
    (hY2 : ∀ x cur W1, St w0 cur W1 → J W1 → Pl.good x.data.toList = false → YieldAt Fence.wide (n - 1) Tryd.prog l #[.string x] W1 fun e W' => e = .returned (.bool false) ∧ Jx W') :
    CallsIn Fence.wide n Tryd.prog 38 #[.func (.yield l) #[] #[], .pointer (some ⟨w0.heap.size + 1 + 1, 0, none⟩), .pointer (some ⟨w0.heap.size + 1, 0, none⟩), .pointer (some ⟨w0.heap.size + 1 + 1 + 1, 0, none⟩)] W
      fun e W' => (∃ v, e = .returned v) ∧ (((Pl.segs s0.data.toList).all Pl.good = true ∧ (∃ cur, St w0 cur W') ∧ J W') ∨ ((Pl.segs s0.data.toList).all Pl.good = false ∧ Jx W')) := by
  refine callsIn_of_wp Tryd.func38 rfl trivial ?_ rfl
  simp only [Tryd.ntmps38, List.size_toArray, List.length_cons, List.length_nil, Nat.reduceAdd, Nat.reduceSub, Array.replicate_succ, Array.replicate_zero, List.push_toArray, List.append_toArray, List.nil_append, List.cons_append]
  have e1 := h0.sep
  have e2 := h0.s
  gi_wp2_with fail
  gi_loopw [7] (fun _ wr => ∃ cur, St w0 cur wr ∧ J wr ∧ cur.size ≤ s0.size ∧ (Pl.segs s0.data.toList).all Pl.good = (Pl.segs cur.data.toList).all Pl.good) (fun _ wr => leftOf w0 wr)
  case atStart => exact ⟨s0, h0, hJ, Nat.le_refl _, rfl⟩
  case round =>
    clear e1 e2 h0 hJ
    obtain ⟨cur, hst, hj, hle, hall⟩ := hrel
    have HA : Hid ((Pl.segs s0.data.toList).all Pl.good = (Pl.segs cur.data.toList).all Pl.good) := hall
    clear hall
    have e1 := hst.sep
    have e2 := hst.s
    have e3 := hst.save
    have e4 := hst.sF
    have hn1 : 1 ≤ n := by omega
    rcases Pl.idx_cases cur.data.toList with ⟨hi, hsg⟩ | ⟨i, hi, hil, hsg⟩
    · have HS : Hid (Pl.segs cur.data.toList = [cur.data.toList]) := hsg
      clear hsg
      cases hg : Pl.good cur.data.toList with
      | true =>
        obtain ⟨fn, tmps, assign, body, hy, hR⟩ := hY1 cur cur wr hst hj hg
        have HG : Hid (Pl.good cur.data.toList = true) := hg
        clear hg
        gi_wp2_with (refine ⟨trivial, ?_⟩; gi_at_call 22; refine (callsIn_wide.2 (Tryd.strings_Index_one _ 47 _)).mono ?_; rintro e w' ⟨rfl, rfl⟩)
        refine hR.mono ?_
        rintro e W3 ⟨rfl, rfl⟩
        gi_wp2
        go_end0
        exact ⟨⟨_, rfl⟩, .inl ⟨by rw [HA.out, HS.out]; simp [HG.out], ⟨_, hst⟩, hj⟩⟩
      | false =>
        obtain ⟨fn, tmps, assign, body, hy, hR⟩ := hY2 cur cur wr hst hj hg
        have HG : Hid (Pl.good cur.data.toList = false) := hg
        clear hg
        gi_wp2_with (refine ⟨trivial, ?_⟩; gi_at_call 22; refine (callsIn_wide.2 (Tryd.strings_Index_one _ 47 _)).mono ?_; rintro e w' ⟨rfl, rfl⟩)
        refine hR.mono ?_
        rintro e W3 ⟨rfl, hJx3⟩
        gi_wp2
        go_end0
        exact ⟨⟨_, rfl⟩, .inr ⟨by rw [HA.out, HS.out]; simp [HG.out], hJx3⟩⟩
    · have i1 : i < cur.size := by rw [ba_len] at hil; exact hil
      have HS : Hid (Pl.segs cur.data.toList = cur.data.toList.take i :: Pl.segs (cur.data.toList.drop (i + 1))) := hsg
      clear hsg hil
      cases hg : Pl.good (cur.extract 0 i).data.toList with
      | true =>
        obtain ⟨fn, tmps, assign, body, hy, hR⟩ := hY1 (cur.extract 0 i) cur wr hst hj hg
        have HG : Hid (Pl.good (cur.data.toList.take i) = true) := by rw [← Lib.extract_from_zero]; exact hg
        clear hg
        gi_wp2_with (refine ⟨trivial, ?_⟩; gi_at_call 22; refine (callsIn_wide.2 (Tryd.strings_Index_one _ 47 _)).mono ?_; rintro e w' ⟨rfl, rfl⟩)
        refine hR.mono ?_
        rintro e W3 ⟨rfl, rfl⟩
        gi_wp2
        have hd : (cur.extract (i + 1) cur.size).data.toList = cur.data.toList.drop (i + 1) := ba_from cur (i + 1)
        have hz : (cur.extract (i + 1) cur.size).size = cur.size - (i + 1) := by rw [← ba_len, hd, List.length_drop, ba_len]
        refine ⟨⟨cur.extract (i + 1) cur.size, hst.set _, hJs _ _ hj, by omega, ?_⟩, ?_⟩
        · rw [HA.out, HS.out, hd]; simp [HG.out]
        · rw [leftOf_eq (hst.set _), leftOf_eq hst]; omega
      | false =>
        obtain ⟨fn, tmps, assign, body, hy, hR⟩ := hY2 (cur.extract 0 i) cur wr hst hj hg
        have HG : Hid (Pl.good (cur.data.toList.take i) = false) := by rw [← Lib.extract_from_zero]; exact hg
        clear hg
        gi_wp2_with (refine ⟨trivial, ?_⟩; gi_at_call 22; refine (callsIn_wide.2 (Tryd.strings_Index_one _ 47 _)).mono ?_; rintro e w' ⟨rfl, rfl⟩)
        refine hR.mono ?_
        rintro e W3 ⟨rfl, hJx3⟩
        gi_wp2
        refine bodyPost_ret (results_none rfl _ _ _) rfl ?_
        exact ⟨⟨_, rfl⟩, .inr ⟨by rw [HA.out, HS.out]; simp [HG.out], hJx3⟩⟩
end Go.Proofs.Qxb6604302aDoor
