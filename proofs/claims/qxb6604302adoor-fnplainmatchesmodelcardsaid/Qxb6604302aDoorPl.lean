/-
  The walk of 'Plain'.
-/
import Derived.Test.Qxb6604302aDoorRange
namespace Go.Proofs.Qxb6604302aDoor
open Go.RowKit Go.Shelf

theorem cell_alloc_l {W : World} {a : Addr} {v : Value} (o : Obj) (h : W.cell? a = some v) : (W.alloc o).cell? a = some v := cell_kept h (World.grownBy_alloc W o none) (fun r e => by cases e)

set_option maxRecDepth 100000 in
set_option maxHeartbeats 1000000 in
/-- One of the three refused texts is there. -/
theorem plain_refused (es ds bs : ByteArray) (w : World) (m : Int) (he : es.size ≤ 1048576) (hd : ds.size ≤ 1048576) (hm : w.cell? ⟨0, 0, none⟩ = some (.int .i64 m))
    (hc : (Lib.contains es.data.toList [37, 50, 70] || Lib.contains es.data.toList [37, 50, 102] || Lib.contains ds.data.toList [92]) = true) :
    Calls Tryd.prog 12 #[.string es, .string ds, .string bs] w fun e w' => e = .returned (.bool false) ∧ Below w.heap.size w w' := by
  have hm1 := fun o => cell_alloc_l (W := w) o hm
  clear hm
  cases h1 : Lib.contains es.data.toList [37, 50, 70] with
  | true =>
    clear hc
    go_enter Tryd.func12, Tryd.ntmps12
    go_wp2_with (go_at_call 14; refine (Tryd.strings_Contains _ _ m _ (by omega) (hm1 _)).mono ?_; rintro e w' ⟨rfl, rfl⟩)
    exact bodyPost_ret (v := .bool false) (by simp [results, Tryd.results12, go_sem]) rfl ⟨rfl, (Below.refl _ _).alloc (Nat.le_refl _) _⟩
  | false =>
    cases h2 : Lib.contains es.data.toList [37, 50, 102] with
    | true =>
      clear hc
      go_enter Tryd.func12, Tryd.ntmps12
      go_wp2_with (go_at_call 14; refine (Tryd.strings_Contains _ _ m _ (by omega) (hm1 _)).mono ?_; rintro e w' ⟨rfl, rfl⟩)
      exact bodyPost_ret (v := .bool false) (by simp [results, Tryd.results12, go_sem]) rfl ⟨rfl, (Below.refl _ _).alloc (Nat.le_refl _) _⟩
    | false =>
      have h3 : Lib.contains ds.data.toList [92] = true := by rw [h1, h2] at hc; simpa using hc
      clear hc
      go_enter Tryd.func12, Tryd.ntmps12
      go_wp2_with (go_at_call 14; refine (Tryd.strings_Contains _ _ m _ (by omega) (hm1 _)).mono ?_; rintro e w' ⟨rfl, rfl⟩)
      exact bodyPost_ret (v := .bool false) (by simp [results, Tryd.results12, go_sem]) rfl ⟨rfl, (Below.refl _ _).alloc (Nat.le_refl _) _⟩

set_option maxRecDepth 100000 in
set_option maxHeartbeats 1000000 in
/-- No slash at the head. -/
theorem plain_nohead (es ds bs : ByteArray) (w : World) (m : Int) (he : es.size ≤ 1048576) (hd : ds.size ≤ 1048576) (hm : w.cell? ⟨0, 0, none⟩ = some (.int .i64 m))
    (h1 : Lib.contains es.data.toList [37, 50, 70] = false) (h2 : Lib.contains es.data.toList [37, 50, 102] = false) (h3 : Lib.contains ds.data.toList [92] = false)
    (h4 : Lib.hasPrefix bs.data.toList [47] = false) :
    Calls Tryd.prog 12 #[.string es, .string ds, .string bs] w fun e w' => e = .returned (.bool false) ∧ Below w.heap.size w w' := by
  have hm1 := fun o => cell_alloc_l (W := w) o hm
  clear hm
  go_enter Tryd.func12, Tryd.ntmps12
  go_wp2_with (first
    | (go_at_call 14; refine (Tryd.strings_Contains _ _ m _ (by omega) (hm1 _)).mono ?_; rintro e w' ⟨rfl, rfl⟩)
    | (go_at_call 18; refine (Tryd.strings_CutPrefix _ _ _).mono ?_; rintro e w' ⟨rfl, rfl⟩))
  exact bodyPost_ret (v := .bool false) (by simp [results, Tryd.results12, go_sem]) rfl ⟨rfl, (Below.refl _ _).alloc (Nat.le_refl _) _⟩

set_option maxRecDepth 100000 in
set_option maxHeartbeats 1000000 in
/-- Nothing but slashes. -/
theorem plain_bare (es ds bs : ByteArray) (w : World) (m : Int) (he : es.size ≤ 1048576) (hd : ds.size ≤ 1048576) (hb : bs.size ≤ 1048576) (hm : w.cell? ⟨0, 0, none⟩ = some (.int .i64 m))
    (h1 : Lib.contains es.data.toList [37, 50, 70] = false) (h2 : Lib.contains es.data.toList [37, 50, 102] = false) (h3 : Lib.contains ds.data.toList [92] = false)
    (h4 : Lib.hasPrefix bs.data.toList [47] = true) (h5 : Lib.trimSuffix (Lib.trimPrefix bs.data.toList [47]) [47] = []) :
    Calls Tryd.prog 12 #[.string es, .string ds, .string bs] w fun e w' => e = .returned (.bool true) ∧ Below w.heap.size w w' := by
  have hm1 := fun o => cell_alloc_l (W := w) o hm
  clear hm
  have hz : (⟨(Lib.trimPrefix bs.data.toList [47]).toArray⟩ : ByteArray).size ≤ 9223372036854775807 := by
    rw [← ba_len]
    have := List.length_drop (i := 1) (l := bs.data.toList)
    have h0 := ba_len bs
    simp only [Lib.trimPrefix, h4, if_true, List.length_cons, List.length_nil]
    simp; omega
  go_enter Tryd.func12, Tryd.ntmps12
  go_wp2_with (first
    | (go_at_call 14; refine (Tryd.strings_Contains _ _ m _ (by omega) (hm1 _)).mono ?_; rintro e w' ⟨rfl, rfl⟩)
    | (go_at_call 18; refine (Tryd.strings_CutPrefix _ _ _).mono ?_; rintro e w' ⟨rfl, rfl⟩)
    | (go_at_call 19; refine (Tryd.strings_TrimSuffix _ _ _ (by exact hz)).mono ?_; rintro e w' ⟨rfl, rfl⟩))
  exact bodyPost_ret (v := .bool true) (by simp [results, Tryd.results12, go_sem]) rfl ⟨rfl, (Below.refl _ _).alloc (Nat.le_refl _) _⟩

theorem trims_len (l : List UInt8) : (Lib.trimSuffix (Lib.trimPrefix l [47]) [47]).length ≤ l.length := by
  unfold Lib.trimSuffix Lib.trimPrefix
  split <;> split <;> simp <;> omega

theorem splitSeq_any (s p : ByteArray) (w : World) :
    Calls Tryd.prog 20 #[.string s, .string p] w fun e w' => e = .returned (.func (.func 38) #[] #[.pointer (some ⟨w.heap.size + 1, 0, none⟩), .pointer (some ⟨w.heap.size, 0, none⟩), .pointer (some ⟨w.heap.size + 1 + 1, 0, none⟩)]) ∧
      w' = ((w.alloc (.cells #[.string s] 9)).alloc (.cells #[.string p] 9)).alloc (.cells #[.int .i64 0] 3) := by
  go_enter Tryd.func20, Tryd.ntmps20
  go_wp2
  go_ret
  exact ⟨rfl, rfl⟩

theorem cell_new_l (W : World) (v : Value) (t : TypeId) : (W.alloc (.cells #[v] t)).cell? ⟨W.heap.size, 0, none⟩ = some v ∧ (W.alloc (.cells #[v] t)).frozen? ⟨W.heap.size, 0, none⟩ = false := by
  have h : (W.alloc (.cells #[v] t)).heap[W.heap.size]? = some (.cells #[v] t (0, 0)) := World.alloc_heap_new W _
  constructor
  · unfold World.cell?; rw [h]; rfl
  · unfold World.frozen?; rw [h]; rfl
theorem frozen_alloc_l {W : World} {a : Addr} {v : Value} (o : Obj) (h : W.cell? a = some v) (hf : W.frozen? a = false) : (W.alloc o).frozen? a = false := (frozen_kept h (World.grownBy_alloc W o none) (fun r e => by cases e)).trans hf

theorem start_st (w : World) (s : ByteArray) : St w s ((((w.alloc (.cells #[.bool false] 4)).alloc (.cells #[.string s] 9)).alloc (.cells #[.string ⟨#[47]⟩] 9)).alloc (.cells #[.int .i64 0] 3)) := by
  have c0 := cell_new_l w (.bool false) 4
  have c1 := cell_new_l (w.alloc (.cells #[.bool false] 4)) (.string s) 9
  have c2 := cell_new_l ((w.alloc (.cells #[.bool false] 4)).alloc (.cells #[.string s] 9)) (.string ⟨#[47]⟩) 9
  have c3 := cell_new_l (((w.alloc (.cells #[.bool false] 4)).alloc (.cells #[.string s] 9)).alloc (.cells #[.string ⟨#[47]⟩] 9)) (.int .i64 0) 3
  simp only [World.size_alloc] at c1 c2 c3
  exact { below := ((((Below.refl _ w).alloc (Nat.le_refl _) _).alloc (by simp) _).alloc (by simp; omega) _).alloc (by simp; omega) _
          res := cell_alloc_l _ (cell_alloc_l _ (cell_alloc_l _ c0.1))
          resF := frozen_alloc_l _ (cell_alloc_l _ (cell_alloc_l _ c0.1)) (frozen_alloc_l _ (cell_alloc_l _ c0.1) (frozen_alloc_l _ c0.1 c0.2))
          s := cell_alloc_l _ (cell_alloc_l _ c1.1)
          sF := frozen_alloc_l _ (cell_alloc_l _ c1.1) (frozen_alloc_l _ c1.1 c1.2)
          sep := cell_alloc_l _ c2.1
          save := c3.1 }

theorem good_yes {x : ByteArray} (h : Pl.good x.data.toList = true) : x.toList.isEmpty = false ∧ (x.toList == [46]) = false ∧ (x.toList == [46, 46]) = false := by
  rw [Lib.toList_data]
  generalize x.data.toList = l at h
  cases l with
  | nil => simp [Pl.good] at h
  | cons c l =>
    simp only [Pl.good, Bool.and_eq_true, Bool.not_eq_true'] at h
    exact ⟨rfl, h.1.2, h.2⟩
theorem good_no {x : ByteArray} (h : Pl.good x.data.toList = false) : x.toList.isEmpty = true ∨ (x.toList.isEmpty = false ∧ (x.toList == [46]) = true) ∨ (x.toList.isEmpty = false ∧ (x.toList == [46]) = false ∧ (x.toList == [46, 46]) = true) := by
  rw [Lib.toList_data]
  generalize x.data.toList = l at h
  cases l with
  | nil => exact .inl rfl
  | cons c l =>
    cases hb : ((c :: l) == [46]) with
    | true => exact .inr (.inl ⟨rfl, rfl⟩)
    | false =>
      cases hc : ((c :: l) == [46, 46]) with
      | true => exact .inr (.inr ⟨rfl, rfl, rfl⟩)
      | false => rw [Pl.good, hb, hc] at h; cases h

attribute [local go_sem] Oper.semAt_some
set_option maxRecDepth 100000 in
set_option maxHeartbeats 1000000 in
/-- The loop over the segments. -/
theorem plain_loop (es ds bs : ByteArray) (w : World) (m : Int) (he : es.size ≤ 1048576) (hd : ds.size ≤ 1048576) (hb : bs.size ≤ 1048576) (hm : w.cell? ⟨0, 0, none⟩ = some (.int .i64 m))
    (h1 : Lib.contains es.data.toList [37, 50, 70] = false) (h2 : Lib.contains es.data.toList [37, 50, 102] = false) (h3 : Lib.contains ds.data.toList [92] = false)
    (h4 : Lib.hasPrefix bs.data.toList [47] = true) (h5 : Lib.trimSuffix (Lib.trimPrefix bs.data.toList [47]) [47] ≠ []) :
    Calls Tryd.prog 12 #[.string es, .string ds, .string bs] w fun e w' => e = .returned (.bool ((Pl.segs (Lib.trimSuffix (Lib.trimPrefix bs.data.toList [47]) [47])).all Pl.good)) ∧ Below w.heap.size w w' := by
  have hm1 := fun o => cell_alloc_l (W := w) o hm
  clear hm
  have hz : (⟨(Lib.trimPrefix bs.data.toList [47]).toArray⟩ : ByteArray).size ≤ 9223372036854775807 := by
    rw [← ba_len]
    have := List.length_drop (i := 1) (l := bs.data.toList)
    have h0 := ba_len bs
    simp only [Lib.trimPrefix, h4, if_true, List.length_cons, List.length_nil]
    simp; omega
  have hr0 := trims_len bs.data.toList
  rw [ba_len] at hr0
  generalize hr : Lib.trimSuffix (Lib.trimPrefix bs.data.toList [47]) [47] = r at h5 hr0 ⊢
  have h6 : r.isEmpty = false := by cases r with
    | nil => exact absurd rfl h5
    | cons => rfl
  refine (callsIn_wide (n := 8)).1 ?_
  refine callsIn_of_wp_marks Tryd.func12 rfl trivial ?_ rfl
  simp only [Tryd.ntmps12, List.size_toArray, List.length_cons, List.length_nil, Nat.reduceAdd, Nat.reduceSub, Array.replicate_succ, Array.replicate_zero, List.push_toArray, List.append_toArray, List.nil_append, List.cons_append]
  have hF : ∀ k, Fence.wide.fn k = True := fun _ => rfl
  gi_wp2_with (first
    | (gi_at_call 14; refine (callsIn_wide.2 (Tryd.strings_Contains _ _ m _ (by omega) (hm1 _))).mono ?_; rintro e w' ⟨rfl, rfl⟩)
    | (gi_at_call 18; refine (callsIn_wide.2 (Tryd.strings_CutPrefix _ _ _)).mono ?_; rintro e w' ⟨rfl, rfl⟩)
    | (gi_at_call 19; refine (callsIn_wide.2 (Tryd.strings_TrimSuffix _ _ _ (by exact hz))).mono ?_; rintro e w' ⟨rfl, rfl⟩)
    | (gi_at_call 20; refine (callsIn_wide.2 (splitSeq_any _ _ _)).mono ?_; rintro e w' ⟨rfl, rfl⟩))
  have hsz : w.heap.size + 1 + 1 + 1 < ((((w.alloc (.cells #[.bool false] 4)).alloc (.cells #[.string ⟨r.toArray⟩] 9)).alloc (.cells #[.string ⟨#[47]⟩] 9)).alloc (.cells #[.int .i64 0] 3)).heap.size := by simp
  have hst : St w ⟨r.toArray⟩ ((((w.alloc (.cells #[.bool false] 4)).alloc (.cells #[.string ⟨r.toArray⟩] 9)).alloc (.cells #[.string ⟨#[47]⟩] 9)).alloc (.cells #[.int .i64 0] 3)) := start_st w _
  refine range_law (by omega) w ⟨r.toArray⟩ rfl rfl hst hsz (by rw [← ba_len]; simpa using (by omega : r.length ≤ 2097152))
    (fun x => { tmps := #[.string es, .string ds, .string bs, undef, undef, undef, .pointer (some ⟨w.heap.size, 0, none⟩), .string ⟨r.toArray⟩, .bool true, .string x, .string es, .bool false, .bool false, .string es, .bool false, .bool false, .bool false, .string ds, .bool false, .bool false,
      .tuple #[.string ⟨(Lib.trimPrefix bs.data.toList [47]).toArray⟩, .bool true], .string bs, .tuple #[.string ⟨(Lib.trimPrefix bs.data.toList [47]).toArray⟩, .bool true], .string ⟨(Lib.trimPrefix bs.data.toList [47]).toArray⟩, .bool true, .bool true, .bool false, .string ⟨(Lib.trimPrefix bs.data.toList [47]).toArray⟩,
      .string ⟨r.toArray⟩, .string ⟨r.toArray⟩, .bool false, .string ⟨r.toArray⟩, .func (.func 38) #[] #[.pointer (some ⟨w.heap.size + 1 + 1, 0, none⟩), .pointer (some ⟨w.heap.size + 1, 0, none⟩), .pointer (some ⟨w.heap.size + 1 + 1 + 1, 0, none⟩)], .string x, undef, undef, undef, undef, undef, undef, undef, undef, undef, undef], defers := [] })
    ?assign ?body1 ?body2 ?done ?stop
  case assign =>
    intro l x W K hK
    gi_wp2
    exact hK
  case body1 =>
    intro l x W hg
    clear hst hsz hm1 hz h1 h2 h3 h4 h5
    obtain ⟨g0, g1, g2⟩ := good_yes hg
    clear hg
    gi_wp2
  case body2 =>
    intro l x W hg hc hf
    clear hst hsz hm1 hz h1 h2 h3 h4 h5
    rcases good_no hg with g0 | ⟨g0, g1⟩ | ⟨g0, g1, g2⟩
    all_goals
      clear hg
      gi_wp2
  case done =>
    rintro D cur W hD hall hs hK
    have hcr := hs.res
    have hfr := hs.resF
    gi_wp2
    have hK' := (KeepsOthers.setCell W ⟨w.heap.size, 0, none⟩ (.bool true)).same D _ hK rfl
    refine ⟨by simp, .inl ⟨_, _, rfl, run_takeDeferred hK', ?_⟩⟩
    have hc5 := cell_kept (World.cell?_setCell_same' W ⟨w.heap.size, 0, none⟩ (.bool true) (by rw [hcr]; rfl)) (grownBy_putObj' _ D (.deferred none)) (fun r e => by cases e; exact ⟨_, hK', rfl⟩)
    refine ⟨.bool true, ?_, rfl, (hs.below.setCell (p := ⟨w.heap.size, 0, none⟩) (Nat.le_refl _) _).trans (belowK_b (w := w) (Nat.le_refl _) _ D _ _ (by simp at hD; omega) hK' rfl rfl)⟩
    simp [results, Tryd.f12, go_sem, hc5]
  case stop =>
    rintro D cur W hD hall hs hK
    have hcr := hs.res
    gi_wp2
    refine ⟨by simp, .inl ⟨_, _, rfl, run_takeDeferred hK, ?_⟩⟩
    have hc5 := cell_kept hcr (grownBy_putObj' _ D (.deferred none)) (fun r e => by cases e; exact ⟨_, hK, rfl⟩)
    refine ⟨.bool false, ?_, rfl, hs.below.trans (belowK_b (w := w) (Nat.le_refl _) W D _ _ (by simp at hD; omega) hK rfl rfl)⟩
    simp [results, Tryd.f12, go_sem, hc5]
end Go.Proofs.Qxb6604302aDoor
