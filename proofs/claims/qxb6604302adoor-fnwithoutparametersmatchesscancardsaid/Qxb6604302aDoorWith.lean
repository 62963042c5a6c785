/-
  The walk of 'WithoutParameters'.
-/
import Derived.Test.Qxb6604302aDoorShelf
import Derived.Test.Qxb6604302aDoorScan
import Derived.WalkSmall
import Derived.RangeFuncSeq
import Derived.Outline
namespace Go.Proofs.Qxb6604302aDoor
open Go.RowKit

/-- The pieces that strings.Split hands back. -/
def pieces (p : ByteArray) : List ByteArray := Lib.splitB ⟨#[47]⟩ 0 (Lib.countB p ⟨#[47]⟩) p

theorem splitK_segs (l : List UInt8) : ∀ k, l.count 47 = k → Lib.splitK [47] 0 k l = Pl.segs l := by
  intro k
  induction k generalizing l with
  | zero =>
    intro h
    have hn : 47 ∉ l := fun m => by have := List.count_pos_iff.2 m; omega
    rw [Pl.segs_plain l hn]; rfl
  | succ k ih =>
    intro h
    rcases Pl.cut_at l with hn | ⟨a, t, e, hn⟩
    · have := List.count_eq_zero.2 hn; omega
    · have hi : Lib.index l [47] = ((a.length : Nat) : Int) := by
        refine Lib.index_first (by rw [e]; simp) ?_ (fun j hj => ?_)
        · rw [Pl.occ_prefix, e]; simp
        · refine Pl.occ_not (q := 0) (by simp) ?_
          rw [e, Nat.add_zero, List.getElem?_append_left hj, List.getElem?_eq_getElem hj]
          intro he
          exact hn ((Option.some.inj he) ▸ List.getElem_mem hj)
      have hne : (Lib.index l [47] == -1) = false := by rw [hi, beq_eq_false_iff_ne]; omega
      have hc : t.count 47 = k := by
        rw [e] at h
        simp only [List.count_append, List.count_cons_self, List.count_eq_zero.2 hn] at h
        omega
      unfold Lib.splitK
      rw [hne, hi]
      simp only [Bool.false_eq_true, if_false, Int.toNat_natCast, Nat.add_zero, List.length_cons, List.length_nil]
      have e1 : l.take a.length = a := by rw [e]; simp
      have e2 : l.drop (a.length + (0 + 1)) = t := by rw [e]; simp [List.drop_append]
      rw [e1, e2, ih t hc, e, Pl.segs_cut a t hn]

theorem countB_eq (p : ByteArray) : Lib.countB p ⟨#[47]⟩ = p.data.toList.count 47 := by
  have : Lib.countB p ⟨#[47]⟩ = Lib.count p.data.toList [47] := rfl
  rw [this, Lib.count_one]

theorem pieces_data (p : ByteArray) : (pieces p).map (·.data.toList) = Pl.segs p.data.toList := by
  unfold pieces
  rw [Lib.splitB_data, countB_eq]
  exact splitK_segs _ _ rfl

theorem pieces_len (p : ByteArray) : (pieces p).length = Lib.countB p ⟨#[47]⟩ + 1 := Lib.splitB_all ⟨#[47]⟩ (by decide) 0 _ p rfl

theorem segs_len : ∀ (l : List UInt8), ∀ x ∈ Pl.segs l, x.length ≤ l.length
  | [], x, hx => by simp [Pl.segs] at hx; subst hx; simp
  | c :: l, x, hx => by
    have ih := segs_len l
    by_cases hc : c = 47
    · subst hc
      have : Pl.segs (47 :: l) = [] :: Pl.segs l := by simp [Pl.segs]
      rw [this] at hx
      rcases List.mem_cons.1 hx with rfl | h
      · simp
      · have := ih x h; simp; omega
    · rw [Pl.segs_cons_ne c l hc] at hx
      match hs : Pl.segs l, Pl.segs_ne l with
      | h :: t, _ =>
        rw [hs] at hx ih
        rcases List.mem_cons.1 hx with rfl | h'
        · have := ih h (by simp); simp; omega
        · have := ih x (by simp [h']); simp; omega

theorem pieces_size (p : ByteArray) (x : ByteArray) (hx : x ∈ pieces p) : x.size ≤ p.size := by
  rw [← ba_len, ← ba_len p]
  exact segs_len _ _ (by rw [← pieces_data]; exact List.mem_map_of_mem hx)

/-- A piece without its parameters. -/
def bare (x : ByteArray) : ByteArray := ⟨(Pl.before x.data.toList).toArray⟩

theorem before_cut (l : List UInt8) : (Lib.cut l [59]).1 = Pl.before l := by
  unfold Lib.cut
  rw [Lib.index_one]
  induction l with
  | nil => rfl
  | cons c l ih =>
    by_cases hc : c = 59
    · subst hc; simp [Lib.indexByte, Pl.before]
    · have hb : (c == 59) = false := by simpa using hc
      have hge := Lib.indexByte_ge l 59
      by_cases hm : Lib.indexByte l 59 = -1
      · have e : Lib.indexByte (c :: l) 59 = -1 := by simp [Lib.indexByte, hb, hm]
        rw [e]; rw [hm] at ih
        simp only [Pl.before, hc, if_false]
        simp at ih ⊢
        exact ih
      · have e : Lib.indexByte (c :: l) 59 = Lib.indexByte l 59 + 1 := by simp [Lib.indexByte, hb, hm]
        rw [e]
        rw [if_pos (by omega)] at ih ⊢
        simp only [Pl.before, hc, if_false]
        rw [← ih]
        have : (Lib.indexByte l 59 + 1).toNat = (Lib.indexByte l 59).toNat + 1 := by omega
        rw [this, List.take_succ_cons]

theorem join_scan (p : ByteArray) : Lib.join (((pieces p).map bare).map (·.data.toList)) [47] = Pl.scan false p.data.toList := by
  rw [(Pl.scan_segs p.data.toList).1, ← pieces_data, List.map_map, List.map_map]
  rfl

theorem split_any (p : ByteArray) (m : Int) (w : World) (hs : p.size ≤ 1048576) (hm : w.cell? ⟨0, 0, none⟩ = some (.int .i64 m)) :
    Calls Tryd.prog 15 #[.string p, .string ⟨#[47]⟩] w fun e w' => e = .returned (.slice (some ⟨w.heap.size, 0, none⟩) (pieces p).length (pieces p).length) ∧ w' = w.alloc (.cells ((pieces p).map Value.string).toArray 9) := by
  have := Tryd.strings_Split p ⟨#[47]⟩ m w (by omega) hm (by decide)
  rw [← pieces_len] at this
  exact this

theorem join_any (bk n c : Nat) (xs : List ByteArray) (w : World) (hn : xs.length = n) (hcells : ∀ (j : Nat) x, xs[j]? = some x → w.cell? ⟨bk, j, none⟩ = some (.string x)) (hbk : bk < w.heap.size) (hN : n ≤ 140737488355328) (hcap : n ≤ c) (hlen : (Lib.join (xs.map (·.data.toList)) [47]).length ≤ 140737488355328) :
    Calls Tryd.prog 17 #[.slice (some ⟨bk, 0, none⟩) n c, .string ⟨#[47]⟩] w fun e w' => e = .returned (.string ⟨(Lib.join (xs.map (·.data.toList)) [47]).toArray⟩) ∧ Below w.heap.size w w' := by
  subst hn
  exact Tryd.strings_Join bk 0 c xs ⟨#[47]⟩ w (fun j x h => by rw [Nat.zero_add]; exact hcells j x h) hbk hN hcap hlen

theorem cut_any (s : ByteArray) (m : Int) (w : World) (hs : s.size ≤ 1048576) (hm : w.cell? ⟨0, 0, none⟩ = some (.int .i64 m)) :
    Calls Tryd.prog 16 #[.string s, .string ⟨#[59]⟩] w fun e w' => ∃ a b, e = .returned (.tuple #[.string (bare s), .string a, .bool b]) ∧ ∃ n, w' = w.drewN n := by
  refine (Tryd.strings_Cut s ⟨#[59]⟩ m w (by omega) hm).mono ?_
  rintro e w' ⟨rfl, n, rfl⟩
  have e : (Lib.cut s.data.toList (⟨#[59]⟩ : ByteArray).data.toList).1 = Pl.before s.data.toList := before_cut _
  exact ⟨⟨(Lib.cut s.data.toList (⟨#[59]⟩ : ByteArray).data.toList).2.1.toArray⟩, (Lib.cut s.data.toList (⟨#[59]⟩ : ByteArray).data.toList).2.2, by rw [e]; rfl, n, rfl⟩

/-- The array when k pieces have been cut. -/
def cutTo (p : ByteArray) (k : Nat) : List ByteArray := ((pieces p).take k).map bare ++ (pieces p).drop k

/-- What lies in memory when k pieces have been cut. -/
structure CutRel (p : ByteArray) (w : World) (k : Nat) (W : World) : Prop where
  below : Below w.heap.size w W
  size : w.heap.size < W.heap.size
  cells : ∀ (j : Nat) x, (cutTo p k)[j]? = some x → W.cell? ⟨w.heap.size, j, none⟩ = some (.string x)
  frozen : ∀ j, W.frozen? ⟨w.heap.size, j, none⟩ = false

theorem CutRel.drew {p : ByteArray} {w : World} {k : Nat} {W : World} (h : CutRel p w k W) (n : Nat) : CutRel p w k (W.drewN n) :=
  ⟨below_drewN h.below n, h.size, fun j x hx => h.cells j x hx, fun j => h.frozen j⟩

theorem CutRel.start (p : ByteArray) (w : World) : CutRel p w 0 (w.alloc (.cells ((pieces p).map Value.string).toArray 9)) := by
  have hh : (w.alloc (.cells ((pieces p).map Value.string).toArray 9)).heap[w.heap.size]? = some (.cells ((pieces p).map Value.string).toArray 9 (0, 0)) := by
    show (w.heap.push _)[w.heap.size]? = _
    simp
  refine ⟨(Below.refl _ _).alloc (Nat.le_refl _) _, by simp, fun j x hx => ?_, fun j => ?_⟩
  · have hx' : (pieces p)[j]? = some x := by simpa [cutTo] using hx
    unfold World.cell?
    rw [hh]
    show ((pieces p).map Value.string).toArray[j]? = _
    simp [hx']
  · unfold World.frozen?
    rw [hh]
    simp

theorem cutTo_at (p : ByteArray) (k : Nat) (x : ByteArray) (h : (pieces p)[k]? = some x) : (cutTo p k)[k]? = some x := by
  have hk : k < (pieces p).length := (List.getElem?_eq_some_iff.1 h).1
  unfold cutTo
  rw [List.getElem?_append_right (by simp; omega)]
  simp only [List.length_map, List.length_take]
  rw [List.getElem?_drop, Nat.min_eq_left (by omega), Nat.sub_self, Nat.add_zero]
  exact h

theorem cutTo_next (p : ByteArray) (k : Nat) (x : ByteArray) (h : (pieces p)[k]? = some x) (j : Nat) (y : ByteArray) (hj : (cutTo p (k + 1))[j]? = some y) :
    (j = k ∧ y = bare x) ∨ (j ≠ k ∧ (cutTo p k)[j]? = some y) := by
  have hk : k < (pieces p).length := (List.getElem?_eq_some_iff.1 h).1
  have hx : (pieces p)[k] = x := by rw [List.getElem?_eq_getElem hk] at h; exact Option.some.inj h
  have e : (pieces p).take (k + 1) = (pieces p).take k ++ [x] := by rw [List.take_succ_eq_append_getElem hk, hx]
  have e2 : (pieces p).drop k = x :: (pieces p).drop (k + 1) := by rw [List.drop_eq_getElem_cons hk, hx]
  unfold cutTo at hj ⊢
  rw [e] at hj
  rw [e2]
  have hl : (((pieces p).take k).map bare).length = k := by simp; omega
  simp only [List.map_append, List.map_cons, List.map_nil, List.append_assoc, List.cons_append, List.nil_append] at hj
  by_cases hjk : j < k
  · right
    refine ⟨by omega, ?_⟩
    rw [List.getElem?_append_left (by omega)] at hj ⊢
    exact hj
  · rw [List.getElem?_append_right (by omega), hl] at hj
    by_cases e3 : j = k
    · left
      subst e3
      simp at hj
      exact ⟨rfl, hj.symm⟩
    · right
      refine ⟨e3, ?_⟩
      rw [List.getElem?_append_right (by omega), hl]
      obtain ⟨q, hq⟩ : ∃ q, j - k = q + 1 := ⟨j - k - 1, by omega⟩
      rw [hq] at hj ⊢
      simpa using hj

theorem CutRel.next {p : ByteArray} {w : World} {k : Nat} {W : World} {x : ByteArray} (h : CutRel p w k W) (hx : (pieces p)[k]? = some x) :
    CutRel p w (k + 1) (W.setCell ⟨w.heap.size, k, none⟩ (.string (bare x))) := by
  refine ⟨h.below.setCell (p := ⟨w.heap.size, k, none⟩) (Nat.le_refl _) _, ?_, fun j y hj => ?_, fun j => by rw [World.frozen?_setCell]; exact h.frozen j⟩
  · have := (KeepsWalks.setCell W ⟨w.heap.size, k, none⟩ (.string (bare x))).size
    exact Nat.lt_of_lt_of_le h.size this
  · rcases cutTo_next p k x hx j y hj with ⟨rfl, rfl⟩ | ⟨hne, hj'⟩
    · exact World.cell?_setCell_same' _ _ _ (by rw [h.cells _ _ (cutTo_at p _ x hx)]; rfl)
    · rw [World.cell?_setCell_other _ _ _ _ (by intro e; exact hne (congrArg Addr.off e).symm)]
      exact h.cells j y hj'

theorem cell_lt {W : World} {a : Addr} {v : Value} (h : W.cell? a = some v) : a.block < W.heap.size := by
  obtain ⟨o, ho, _⟩ := not_walk_of_cell h
  exact (Array.getElem?_eq_some_iff.1 ho).1

theorem cutTo_all (p : ByteArray) : cutTo p (pieces p).length = (pieces p).map bare := by
  unfold cutTo; simp

theorem has_semi {l : List UInt8} (h : Lib.contains l [59] = false) : 59 ∉ l := by
  intro hm
  obtain ⟨a, b, e⟩ := List.append_of_mem hm
  have : Lib.contains l [59] = true := (Pl.contains_iff _ _).2 ⟨a, b, by rw [e]; simp⟩
  rw [this] at h; cases h

theorem joined_any (p : ByteArray) (w W : World) (hR : CutRel p w (pieces p).length W) (hp : p.size ≤ 1048576) :
    Calls Tryd.prog 17 #[.slice (some ⟨w.heap.size, 0, none⟩) (pieces p).length (pieces p).length, .string ⟨#[47]⟩] W fun e w' => e = .returned (.string ⟨(Pl.scan false p.data.toList).toArray⟩) ∧ Below w.heap.size w w' := by
  have hcnt : (pieces p).length ≤ 1048577 := by
    rw [pieces_len]
    have := Lib.countB_le ⟨#[47]⟩ (by decide) _ p (Nat.le_refl _)
    omega
  have hl := Pl.scan_len false p.data.toList
  rw [ba_len] at hl
  refine (join_any w.heap.size (pieces p).length (pieces p).length ((pieces p).map bare) W (by simp) (fun j y hj => hR.cells j y (by rw [cutTo_all]; exact hj)) hR.size (by omega) (Nat.le_refl _) (by rw [join_scan]; omega)).mono ?_
  rintro e w' ⟨rfl, hb⟩
  exact ⟨by rw [join_scan], hR.below.trans (hb.mono (Nat.le_of_lt hR.size))⟩

set_option maxHeartbeats 1000000 in
/-- **'WithoutParameters' keeps what the scanner keeps.** -/
theorem with_any (p : ByteArray) (w : World) (m : Int) (hp : p.size ≤ 1048576) (hm : w.cell? ⟨0, 0, none⟩ = some (.int .i64 m)) :
    Calls Tryd.prog 7 #[.string p] w fun e w' => e = .returned (.string ⟨(Pl.scan false p.data.toList).toArray⟩) ∧ Below w.heap.size w w' := by
  cases hc : Lib.contains p.data.toList [59] with
  | false =>
    have HE : Hid ((⟨(Pl.scan false p.data.toList).toArray⟩ : ByteArray) = p) := hid_mk (by rw [Pl.scan_id _ (has_semi hc)])
    go_enter Tryd.func7, Tryd.ntmps7
    go_wp2_with (go_at_call 14; refine (Tryd.strings_Contains _ _ m _ (by omega) hm).mono ?_; rintro e w' ⟨rfl, rfl⟩)
    go_ret
    exact ⟨by rw [HE.out]; rfl, Below.refl _ _⟩
  | true =>
    have hcnt : (pieces p).length ≤ 1048577 := by
      rw [pieces_len]
      have := Lib.countB_le ⟨#[47]⟩ (by decide) _ p (Nat.le_refl _)
      omega
    go_enter Tryd.func7, Tryd.ntmps7
    go_wp2_with (first
      | (go_at_call 14; refine (Tryd.strings_Contains _ _ m _ (by omega) hm).mono ?_; rintro e w1 ⟨rfl, hw⟩; obtain rfl := hw.symm)
      | (go_at_call 15; refine (split_any _ m _ hp hm).mono ?_; rintro e w' ⟨rfl, rfl⟩))
    go_loopw [14] (fun i wr => ∃ k : Nat, k ≤ (pieces p).length ∧ i = .int .i64 k ∧ CutRel p w k wr) (fun i _ => (pieces p).length - (intOf i).toNat)
    case atStart => exact ⟨0, Nat.zero_le _, rfl, CutRel.start p w⟩
    case round =>
      obtain ⟨k, hk, rfl, hR⟩ := hrel
      have hm' : wr.cell? ⟨0, 0, none⟩ = some (.int .i64 m) := (hR.below.cell (p := ⟨0, 0, none⟩) (cell_lt hm)).trans hm
      by_cases hlt : k < (pieces p).length
      · obtain ⟨x, hx⟩ : ∃ x, (pieces p)[k]? = some x := ⟨_, List.getElem?_eq_getElem hlt⟩
        have hxs : x.size ≤ 1048576 := by
          have := pieces_size p x (List.mem_of_getElem? hx); omega
        have hcx := hR.cells k x (cutTo_at p k x hx)
        have hfx := hR.frozen k
        go_wp2_with (go_at_call 16; refine (cut_any _ m _ hxs hm').mono ?_; rintro e w' ⟨a, b, rfl, n, rfl⟩)
        go_roundw
        case rel => exact ⟨k + 1, by omega, by go_num, (hR.drew n).next hx⟩
        case measure => simp [intOf]; omega
      · obtain rfl : k = (pieces p).length := by omega
        go_wp2_with (go_at_call 17; refine (joined_any p w _ hR hp).mono ?_; rintro e w' ⟨rfl, hb⟩)
        go_ret
        exact ⟨rfl, hb⟩
end Go.Proofs.Qxb6604302aDoor
