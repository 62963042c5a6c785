/-
  The walk of 'readDecimal'.
-/
import Derived.Test.Qxb6600799aDoorDigits
import Derived.Deep.DeepCutAuto
import Derived.Deep.LoopGhost
namespace Go.Proofs.Qxb6600799aDoor
open Go.RowKit Go.Shelf
set_option linter.unusedVariables false

/-- The pair that 'readDecimal' hands back. -/
def ansV : Pl.Ans → Value
  | none => .tuple #[.agg #[.bool false, .string ⟨#[]⟩, .int .i64 0], .bool false]
  | some (n, d, e) => .tuple #[.agg #[.bool n, .string ⟨d.toArray⟩, .int .i64 e], .bool true]

/-- The result's box lies as it was laid; nothing old has turned. -/
structure RD (w W : World) : Prop where
  below : Below w.heap.size w W
  size : w.heap.size < W.heap.size
  c0 : W.cell? ⟨w.heap.size, 0, none⟩ = some (.bool false)
  c1 : W.cell? ⟨w.heap.size, 1, none⟩ = some (.string ⟨#[]⟩)
  c2 : W.cell? ⟨w.heap.size, 2, none⟩ = some (.int .i64 0)
  f0 : W.frozen? ⟨w.heap.size, 0, none⟩ = false
  f1 : W.frozen? ⟨w.heap.size, 1, none⟩ = false
  f2 : W.frozen? ⟨w.heap.size, 2, none⟩ = false

theorem RD.next {w W W' : World} (h : RD w W) (hb : Below W.heap.size W W') : RD w W' where
  below := h.below.trans (hb.mono h.below.size)
  size := Nat.lt_of_lt_of_le h.size hb.size
  c0 := (hb.cell (p := ⟨w.heap.size, 0, none⟩) h.size).trans h.c0
  c1 := (hb.cell (p := ⟨w.heap.size, 1, none⟩) h.size).trans h.c1
  c2 := (hb.cell (p := ⟨w.heap.size, 2, none⟩) h.size).trans h.c2
  f0 := (hb.frozen (p := ⟨w.heap.size, 0, none⟩) h.size).trans h.f0
  f1 := (hb.frozen (p := ⟨w.heap.size, 1, none⟩) h.size).trans h.f1
  f2 := (hb.frozen (p := ⟨w.heap.size, 2, none⟩) h.size).trans h.f2

theorem RD.drew {w W : World} (h : RD w W) (n : Nat) : RD w (W.drewN n) := h.next (bdrew (Below.refl _ _) n)

theorem RD.start (w : World) : RD w (w.alloc (.cells #[.bool false, .string ⟨#[]⟩, .int .i64 0] 27)) := by
  have hh : (w.alloc (.cells #[.bool false, .string ⟨#[]⟩, .int .i64 0] 27)).heap[w.heap.size]? = some (.cells #[.bool false, .string ⟨#[]⟩, .int .i64 0] 27 (0, 0)) := by
    show (w.heap.push _)[w.heap.size]? = _
    simp
  refine ⟨(Below.refl _ _).alloc (Nat.le_refl _) _, by simp, ?_, ?_, ?_, ?_, ?_, ?_⟩
  all_goals first | (unfold World.cell?; rw [hh]; rfl) | (unfold World.frozen?; rw [hh]; rfl)

theorem RD.put {w W : World} (h : RD w W) (a b c : Value) :
    Below w.heap.size w (((W.setCell ⟨w.heap.size, 0, none⟩ a).setCell ⟨w.heap.size, 1, none⟩ b).setCell ⟨w.heap.size, 2, none⟩ c) ∧
    (((W.setCell ⟨w.heap.size, 0, none⟩ a).setCell ⟨w.heap.size, 1, none⟩ b).setCell ⟨w.heap.size, 2, none⟩ c).cell? ⟨w.heap.size, 0, none⟩ = some a ∧
    (((W.setCell ⟨w.heap.size, 0, none⟩ a).setCell ⟨w.heap.size, 1, none⟩ b).setCell ⟨w.heap.size, 2, none⟩ c).cell? ⟨w.heap.size, 1, none⟩ = some b ∧
    (((W.setCell ⟨w.heap.size, 0, none⟩ a).setCell ⟨w.heap.size, 1, none⟩ b).setCell ⟨w.heap.size, 2, none⟩ c).cell? ⟨w.heap.size, 2, none⟩ = some c := by
  have d01 : (⟨w.heap.size, 0, none⟩ : Addr) ≠ ⟨w.heap.size, 1, none⟩ := by simp
  have d02 : (⟨w.heap.size, 0, none⟩ : Addr) ≠ ⟨w.heap.size, 2, none⟩ := by simp
  have d12 : (⟨w.heap.size, 1, none⟩ : Addr) ≠ ⟨w.heap.size, 2, none⟩ := by simp
  refine ⟨?_, ?_, ?_, ?_⟩
  · exact ((h.below.setCell (p := ⟨w.heap.size, 0, none⟩) (Nat.le_refl _) _).setCell (p := ⟨w.heap.size, 1, none⟩) (Nat.le_refl _) _).setCell (p := ⟨w.heap.size, 2, none⟩) (Nat.le_refl _) _
  · rw [World.cell?_setCell_other _ _ _ _ d02.symm, World.cell?_setCell_other _ _ _ _ d01.symm]
    exact World.cell?_setCell_same' _ _ _ (by rw [h.c0]; rfl)
  · rw [World.cell?_setCell_other _ _ _ _ d12.symm]
    exact World.cell?_setCell_same' _ _ _ (by rw [World.cell?_setCell_other _ _ _ _ d01, h.c1]; rfl)
  · exact World.cell?_setCell_same' _ _ _ (by rw [World.cell?_setCell_other _ _ _ _ d12, World.cell?_setCell_other _ _ _ _ d02, h.c2]; rfl)

def r0B (s : ByteArray) : ByteArray := ⟨(Pl.rest0 s.data.toList).toArray⟩
def negB (s : ByteArray) : Bool := s.data.toList.head? == some 45

theorem has_one (l : List UInt8) (c : UInt8) : Lib.hasPrefix l [c] = (l.head? == some c) := by
  unfold Lib.hasPrefix
  cases l with
  | nil => rfl
  | cons d l =>
    have h1 : ([c].isPrefixOf (d :: l)) = (c == d) := by simp [List.isPrefixOf]
    have h2 : ((d :: l).head? == some c) = (d == c) := rfl
    rw [h1, h2]
    exact Bool.beq_comm

theorem trim_one (l : List UInt8) (c : UInt8) : Lib.trimPrefix l [c] = if l.head? = some c then l.tail else l := by
  unfold Lib.trimPrefix
  rw [has_one]
  by_cases h : l.head? = some c
  · rw [if_pos (by simp [h]), if_pos h]; simp
  · rw [if_neg (by simp [h]), if_neg h]

theorem minus_any (s : ByteArray) (w : World) :
    Calls Tryd.prog 15 #[.string s, .string ⟨#[45]⟩] w fun e w' => e = .returned (.tuple #[.string (r0B s), .bool (negB s)]) ∧ w' = w := by
  have h := Tryd.strings_CutPrefix s ⟨#[45]⟩ w
  have e1 : (⟨(Lib.trimPrefix s.data.toList (⟨#[45]⟩ : ByteArray).data.toList).toArray⟩ : ByteArray) = r0B s := ba_ext (trim_one _ 45)
  have e2 : Lib.hasPrefix s.data.toList (⟨#[45]⟩ : ByteArray).data.toList = negB s := has_one _ 45
  rw [e1, e2] at h
  exact h

/-- Without the point, where there is one. -/
def dotB (s : ByteArray) : ByteArray := ⟨(if s.data.toList.head? = some 46 then s.data.toList.tail else s.data.toList).toArray⟩
def isDotB (s : ByteArray) : Bool := s.data.toList.head? == some 46
theorem dot_any (s : ByteArray) (w : World) :
    Calls Tryd.prog 15 #[.string s, .string ⟨#[46]⟩] w fun e w' => e = .returned (.tuple #[.string (dotB s), .bool (isDotB s)]) ∧ w' = w := by
  have h := Tryd.strings_CutPrefix s ⟨#[46]⟩ w
  have e1 : (⟨(Lib.trimPrefix s.data.toList (⟨#[46]⟩ : ByteArray).data.toList).toArray⟩ : ByteArray) = dotB s := ba_ext (trim_one _ 46)
  have e2 : Lib.hasPrefix s.data.toList (⟨#[46]⟩ : ByteArray).data.toList = isDotB s := has_one _ 46
  rw [e1, e2] at h
  exact h

theorem size_mk (l : List UInt8) : (⟨l.toArray⟩ : ByteArray).size = l.length := by rw [← ba_len]
theorem r0B_size (s : ByteArray) : (r0B s).size ≤ s.size := by
  unfold r0B; rw [size_mk]; unfold Pl.rest0; rw [← ba_len]; split <;> simp
theorem runB_size (s : ByteArray) : (runB s).size ≤ s.size := by
  unfold runB; rw [size_mk, ← ba_len]; exact (List.takeWhile_prefix _).length_le
theorem aftB_size (s : ByteArray) : (aftB s).size ≤ s.size := by
  unfold aftB; rw [size_mk, ← ba_len]; exact (List.dropWhile_suffix _).length_le
theorem dotB_size (s : ByteArray) : (dotB s).size ≤ s.size := by
  unfold dotB; rw [size_mk, ← ba_len]; split <;> simp

theorem ba_from (s : ByteArray) (k : Nat) : (s.extract k s.size).data.toList = s.data.toList.drop k := by
  rw [Lib.extract_data, List.take_of_length_le (by rw [List.length_drop, ba_len]; exact Nat.le_refl _)]
theorem List.tail_drop_one (l : List UInt8) : l.tail = l.drop 1 := by cases l <;> rfl

def plusB (s : ByteArray) : ByteArray := ⟨(Lib.trimPrefix s.data.toList [43]).toArray⟩
theorem plusB_size (s : ByteArray) : (plusB s).size ≤ s.size := by
  unfold plusB; rw [size_mk, trim_one, ← ba_len]; split <;> simp
theorem plus_any (s : ByteArray) (w : World) :
    Calls Tryd.prog 17 #[.string s, .string ⟨#[43]⟩] w fun e w' => e = .returned (.string (plusB s)) ∧ w' = w :=
  Tryd.strings_TrimPrefix s ⟨#[43]⟩ w
theorem pow_eq (p : ByteArray) : Pl.powR p.data.toList = ((if negB p = true then -1 else 1), (if negB p = true then r0B p else plusB p).data.toList) := by
  unfold Pl.powR
  by_cases h : p.data.toList.head? = some 45
  · have h1 : negB p = true := by unfold negB; rw [h]; rfl
    rw [if_pos h, h1, if_pos rfl, if_pos rfl]
    unfold r0B Pl.rest0; rw [if_pos h]
  · have h1 : negB p = false := by unfold negB; rw [beq_eq_false_iff_ne]; exact h
    rw [if_neg h, h1, if_neg (by simp), if_neg (by simp)]
    rfl

/-- Without the zeros ahead; without those behind. -/
def tr (s : ByteArray) : ByteArray := ⟨(Lib.trimLeftB s.data.toList 48).toArray⟩
def tl (s : ByteArray) : ByteArray := ⟨(Lib.trimRightB s.data.toList 48).toArray⟩
theorem tr_size (s : ByteArray) : (tr s).size ≤ s.size := by
  unfold tr; rw [size_mk, ← ba_len]; exact (List.dropWhile_suffix _).length_le
theorem tl_size (s : ByteArray) : (tl s).size ≤ s.size := by
  unfold tl; rw [size_mk, ← ba_len]; exact (Pl.trimR_prefix _).length_le
theorem trimL_any (s : ByteArray) (w : World) :
    Calls Tryd.prog 18 #[.string s, .string ⟨#[48]⟩] w fun e w' => e = .returned (.string (tr s)) ∧ w' = w :=
  Tryd.strings_TrimLeft_one s 48 (by decide) w
theorem trimR_any (s : ByteArray) (w : World) (hs : s.size ≤ 4194304) :
    Calls Tryd.prog 19 #[.string s, .string ⟨#[48]⟩] w fun e w' => e = .returned (.string (tl s)) ∧ w' = w :=
  Tryd.strings_TrimRight_one s 48 (by decide) w (by omega)

set_option maxRecDepth 100000 in
set_option maxHeartbeats 2000000 in
theorem read_any (s : ByteArray) (w : World) (hs : s.size ≤ 1048576) :
    Calls Tryd.prog 12 #[.string s] w fun e w' => e = .returned (ansV (Pl.readF s.data.toList)) ∧ Below w.heap.size w w' := by
  have z0 := r0B_size s
  obtain ⟨A, hA⟩ : ∃ A, Pl.readF s.data.toList = A := ⟨_, rfl⟩
  rw [hA]
  unfold Pl.readF at hA
  have c15 := minus_any s
  have e0 : (r0B s).data.toList = Pl.rest0 s.data.toList := rfl
  have en : (s.data.toList.head? == some 45) = negB s := rfl
  rw [← e0, en] at hA
  generalize r0B s = r0 at *
  generalize negB s = neg at *
  clear e0 en
  have z1 := runB_size r0
  have z2 := aftB_size r0
  have c16 := fun W => cut_any r0 W (by omega)
  have e1 : Pl.run r0.data.toList = (runB r0).data.toList := rfl
  have e2 : Pl.after r0.data.toList = (aftB r0).data.toList := rfl
  rw [e1, e2] at hA
  generalize runB r0 = W at *
  generalize aftB r0 = r1 at *
  clear e1 e2
  have HA := hid_mk hA
  have H15 := hid_mk c15
  have H16 := hid_mk c16
  clear hA c15 c16
  go_enter Tryd.func12, Tryd.ntmps12
  go_upto_region 3 with (first
    | (go_at_call 15; refine (H15.out _).mono ?_; rintro e w1 ⟨rfl, hw⟩; subst hw)
    | (go_at_call 16; refine (H16.out _).mono ?_; rintro e w1 ⟨rfl, hb1⟩))
  have hR := (RD.start w).next hb1
  clear hb1
  have r0c := hR.c0
  have r1c := hR.c1
  have r2c := hR.c2
  have r0f := hR.f0
  have r1f := hR.f1
  have r2f := hR.f2
  by_cases hW0 : W.data.toList = []
  · have HF : Hid (A = none) := hid_mk (by have := HA.out; rw [if_pos (.inl hW0)] at this; exact this.symm)
    have t1 : W.toList.isEmpty = true := by rw [Lib.toList_data, hW0]; rfl
    clear hW0 HA
    go_wp2_with fail
    obtain ⟨hb, q0, q1, q2⟩ := hR.put (.bool false) (.string ⟨#[]⟩) (.int .i64 0)
    exact bodyPost_ret (v := ansV none) (by simp [results, Tryd.results12, go_sem, q0, q1, q2, ansV]) rfl ⟨by rw [HF.out], hb⟩
  · have t1 : W.toList.isEmpty = false := by rw [Lib.toList_data]; simpa using hW0
    have hWp : 0 < W.size := by rw [← ba_len]; exact List.length_pos_iff.2 hW0
    by_cases hW1 : 1 < W.size ∧ W[0] = 48
    · obtain ⟨g1, g2⟩ := hW1
      have HF : Hid (A = none) := hid_mk (by
        have := HA.out
        have hg := ba_get W 0 hWp
        rw [if_pos (.inr ⟨by rw [ba_len]; exact g1, by rw [List.head?_eq_getElem?, hg, g2]⟩)] at this
        exact this.symm)
      have t2 : ((W[0].toNat : Int) == 48) = true := by rw [g2]; rfl
      clear hW0 HA g2
      go_wp2_with fail
      obtain ⟨hb, q0, q1, q2⟩ := hR.put (.bool false) (.string ⟨#[]⟩) (.int .i64 0)
      exact bodyPost_ret (v := ansV none) (by simp [results, Tryd.results12, go_sem, q0, q1, q2, ansV]) rfl ⟨by rw [HF.out], hb⟩
    · have HB : Hid (A = Pl.fracR neg W.data.toList r1.data.toList) := hid_mk (by
        have := HA.out
        have hg := ba_get W 0 hWp
        rw [if_neg] at this
        · exact this.symm
        · rintro (h | ⟨h1, h2⟩)
          · exact hW0 h
          · rw [List.head?_eq_getElem?, hg] at h2
            exact hW1 ⟨by rw [ba_len] at h1; exact h1, Option.some.inj h2⟩)
      clear HA
      go_cut [42] (fun b wc => b = .bool false ∧ w1 = wc)
      case first =>
        by_cases g1 : 1 < W.size
        · have g2 : ((W[0].toNat : Int) == 48) = false := by rw [beq_eq_false_iff_ne]; intro e; exact hW1 ⟨g1, UInt8.toNat_inj.1 (by show W[0].toNat = 48; omega)⟩
          clear hW1
          go_wp2_with fail
          go_meet
          exact ⟨rfl, rfl⟩
        · clear hW1
          go_wp2_with fail
          go_meet
          exact ⟨rfl, rfl⟩
      case rest =>
        obtain ⟨rfl, rfl⟩ := hcut
        clear hW1 hW0 H15 H16 t1
        have c15 := dot_any r1
        have zd := dotB_size r1
        have HD : Hid (A = if isDotB r1 = true then (if Pl.run (dotB r1).data.toList = [] then none else Pl.expR neg W.data.toList (Pl.run (dotB r1).data.toList) (Pl.after (dotB r1).data.toList)) else Pl.expR neg W.data.toList [] r1.data.toList) := hid_mk (by
          rw [HB.out]
          unfold Pl.fracR
          by_cases h : r1.data.toList.head? = some 46
          · have h1 : isDotB r1 = true := by unfold isDotB; rw [h]; rfl
            have h2 : (dotB r1).data.toList = r1.data.toList.tail := by unfold dotB; rw [if_pos h]
            rw [if_pos h, if_pos h1, h2]
          · have h1 : isDotB r1 = false := by unfold isDotB; rw [beq_eq_false_iff_ne]; exact h
            rw [if_neg h, if_neg (by rw [h1]; simp)])
        clear HB
        generalize dotB r1 = d1 at *
        generalize isDotB r1 = dt at *
        have c16 := fun W => cut_any d1 W (by omega)
        have H15 := hid_mk c15
        have H16 := hid_mk c16
        clear c15 c16
        go_upto_if 49 with (go_at_call 15; refine (H15.out _).mono ?_; rintro e w2 ⟨rfl, hw⟩; obtain rfl := hw.symm)
        go_cut [4, 7] (fun rest frac wc => ∃ F r2 : ByteArray, rest = .string r2 ∧ frac = .string F ∧ RD w wc ∧ F.size ≤ s.size ∧ r2.size ≤ s.size ∧ Hid (A = Pl.expR neg W.data.toList F.data.toList r2.data.toList))
        case first =>
          cases dt with
          | false =>
            go_wp2_with fail
            go_meet
            exact ⟨⟨#[]⟩, r1, rfl, rfl, hR, Nat.zero_le _, by omega, hid_mk (by have := HD.out; simpa using this)⟩
          | true =>
            have zr := runB_size d1
            have za := aftB_size d1
            by_cases hF : Pl.run d1.data.toList = []
            · have HF : Hid (A = none) := hid_mk (by have := HD.out; rw [if_pos rfl, if_pos hF] at this; exact this)
              have t1 : (runB d1).toList.isEmpty = true := by rw [Lib.toList_data]; show (Pl.run d1.data.toList).isEmpty = true; rw [hF]; rfl
              clear hF HD
              go_wp2_with (go_at_call 16; refine (H16.out _).mono ?_; rintro e w2 ⟨rfl, hb2⟩; have hR2 := hR.next hb2; have e0 := hR2.c0; have e1 := hR2.c1; have e2 := hR2.c2; have e3 := hR2.f0; have e4 := hR2.f1; have e5 := hR2.f2)
              obtain ⟨hb, q0, q1, q2⟩ := hR2.put (.bool false) (.string ⟨#[]⟩) (.int .i64 0)
              exact bodyPost_ret (v := ansV none) (by simp [results, Tryd.results12, go_sem, q0, q1, q2, ansV]) rfl ⟨by rw [HF.out], hb⟩
            · have HF : Hid (A = Pl.expR neg W.data.toList (runB d1).data.toList (aftB d1).data.toList) := hid_mk (by have := HD.out; rw [if_pos rfl, if_neg hF] at this; exact this)
              have t1 : (runB d1).toList.isEmpty = false := by rw [Lib.toList_data]; show (Pl.run d1.data.toList).isEmpty = false; simpa using hF
              clear hF HD
              go_wp2_with (go_at_call 16; refine (H16.out _).mono ?_; rintro e w2 ⟨rfl, hb2⟩)
              go_meet
              exact ⟨runB d1, aftB d1, rfl, rfl, hR.next hb2, by omega, by omega, HF⟩
        case rest =>
          obtain ⟨F, r2, rfl, rfl, hR3, zF, z3, HE⟩ := hcut
          clear r0c r1c r2c r0f r1f r2f hR H15 H16 HD
          have r0c := hR3.c0
          have r1c := hR3.c1
          have r2c := hR3.c2
          have r0f := hR3.f0
          have r1f := hR3.f1
          have r2f := hR3.f2
          go_upto_if 59 with fail
          go_cut [10] (fun e wx => ∃ ev : Int, e = .int .i64 ev ∧ -1048576 ≤ ev ∧ ev ≤ 1048576 ∧ RD w wx ∧ Hid (A = Pl.finR neg W.data.toList F.data.toList ev))
          case first =>
            by_cases hr2 : r2.data.toList = []
            · have t2 : r2.toList.isEmpty = true := by rw [Lib.toList_data, hr2]; rfl
              have t3 : (!r2.toList.isEmpty) = false := by rw [t2]; rfl
              rw [t3]
              clear t3
              have HG : Hid (A = Pl.finR neg W.data.toList F.data.toList 0) := hid_mk (by rw [HE.out]; unfold Pl.expR; rw [if_pos hr2])
              clear hr2 HE
              go_wp2_with fail
              go_meet
              exact ⟨0, rfl, by omega, by omega, hR3, HG⟩
            · have t2 : r2.toList.isEmpty = false := by rw [Lib.toList_data]; simpa using hr2
              have t3 : (!r2.toList.isEmpty) = true := by rw [t2]; rfl
              rw [t3]
              clear t3
              have hz : 0 < r2.size := by rw [← ba_len]; exact List.length_pos_iff.2 hr2
              have hhd : r2.data.toList.head? = some r2[0] := by rw [List.head?_eq_getElem?, ba_get r2 0 hz]
              by_cases hee : r2[0] = 101 ∨ r2[0] = 69
              · have HX : Hid (A = if Pl.run (Pl.powR r2.data.toList.tail).2 = [] ∨ Pl.after (Pl.powR r2.data.toList.tail).2 ≠ [] then none else Pl.finR neg W.data.toList F.data.toList (Pl.satR (Pl.powR r2.data.toList.tail).2 * (Pl.powR r2.data.toList.tail).1)) := hid_mk (by
                  rw [HE.out]; unfold Pl.expR
                  rw [if_neg hr2, hhd, if_pos]
                  rcases hee with h | h
                  · left; rw [h]
                  · right; rw [h])
                clear hr2 HE hhd
                go_upto_region 13 with fail
                go_cut [67] (fun b wx => b = .bool false ∧ wc = wx)
                case first =>
                  rcases hee with h | h
                  · have b1 : ((r2[0].toNat : Int) != 101) = false := by rw [h]; rfl
                    clear h
                    go_wp2_with fail
                    go_meet
                    exact ⟨rfl, rfl⟩
                  · have b1 : ((r2[0].toNat : Int) != 101) = true := by rw [h]; rfl
                    have b2 : ((r2[0].toNat : Int) != 69) = false := by rw [h]; rfl
                    clear h
                    go_wp2_with fail
                    go_meet
                    exact ⟨rfl, rfl⟩
                case rest =>
                  obtain ⟨rfl, rfl⟩ := hcut
                  clear hee
                  have i1 : (1 : Int) ≤ (r2.size : Int) := by omega
                  obtain ⟨p0, hp0⟩ : ∃ p0, r2.extract 1 r2.size = p0 := ⟨_, rfl⟩
                  have hpd : r2.data.toList.tail = p0.data.toList := by rw [← hp0, ba_from, List.tail_drop_one]
                  have zp : p0.size ≤ s.size := by
                    have h1 := congrArg List.length hpd
                    rw [List.length_tail, ba_len, ba_len] at h1
                    omega
                  rw [hpd] at HX
                  clear hpd
                  have HX2 : Hid (A = if Pl.run (if negB p0 = true then r0B p0 else plusB p0).data.toList = [] ∨ Pl.after (if negB p0 = true then r0B p0 else plusB p0).data.toList ≠ [] then none
                      else Pl.finR neg W.data.toList F.data.toList (Pl.satR (if negB p0 = true then r0B p0 else plusB p0).data.toList * (if negB p0 = true then -1 else 1))) := hid_mk (by
                    rw [HX.out, pow_eq])
                  clear HX
                  have zr := r0B_size p0
                  have zq := plusB_size p0
                  have c15 := minus_any p0
                  have c17 := plus_any p0
                  generalize negB p0 = sgn at *
                  generalize r0B p0 = pm at *
                  generalize plusB p0 = pp at *
                  have H15 := hid_mk c15
                  have H17 := hid_mk c17
                  clear c15 c17
                  go_wp2_with fail
                  go_quiet (fail)
                  go_upto_if 76 with (go_at_call 15; refine (H15.out _).mono ?_; rintro e w2 ⟨rfl, hw⟩; subst hw)
                  go_cut [11, 12] (fun sg pw wx => ∃ (b : Int) (x : ByteArray), sg = .int .i64 b ∧ pw = .string x ∧ (b = 1 ∨ b = -1) ∧ x.size ≤ s.size ∧ RD w wx ∧
                    Hid (A = if Pl.run x.data.toList = [] ∨ Pl.after x.data.toList ≠ [] then none else Pl.finR neg W.data.toList F.data.toList (Pl.satR x.data.toList * b)))
                  case first =>
                    cases sgn with
                    | true =>
                      go_wp2_with fail
                      go_meet
                      exact ⟨-1, pm, rfl, rfl, .inr rfl, by omega, hR3.drew _, HX2⟩
                    | false =>
                      go_wp2_with (go_at_call 17; refine (H17.out _).mono ?_; rintro e w2 ⟨rfl, hw⟩; subst hw)
                      go_meet
                      exact ⟨1, pp, rfl, rfl, .inl rfl, by omega, hR3.drew _, HX2⟩
                  case rest =>
                    obtain ⟨b, x, rfl, rfl, hb1, zx, hR5, HX3⟩ := hcut
                    clear HX2 H15 H17 r0c r1c r2c r0f r1f r2f hR3 hp0 zr zq
                    have c16 := fun W => cut_any x W (by omega)
                    have H16 := hid_mk c16
                    clear c16
                    by_cases hok : Pl.run x.data.toList = [] ∨ Pl.after x.data.toList ≠ []
                    · have HF : Hid (A = none) := hid_mk (by rw [HX3.out, if_pos hok])
                      clear HX3
                      by_cases hd : Pl.run x.data.toList = []
                      · have t4 : (runB x).toList.isEmpty = true := by rw [Lib.toList_data]; show (Pl.run x.data.toList).isEmpty = true; rw [hd]; rfl
                        clear hok hd
                        go_wp2_with (go_at_call 16; refine (H16.out _).mono ?_; rintro e w2 ⟨rfl, hb2⟩; have hR2 := hR5.next hb2; have e0 := hR2.c0; have e1 := hR2.c1; have e2 := hR2.c2; have e3 := hR2.f0; have e4 := hR2.f1; have e5 := hR2.f2)
                        obtain ⟨hb, q0, q1, q2⟩ := hR2.put (.bool false) (.string ⟨#[]⟩) (.int .i64 0)
                        exact bodyPost_ret (v := ansV none) (by simp [results, Tryd.results12, go_sem, q0, q1, q2, ansV]) rfl ⟨by rw [HF.out], hb⟩
                      · have t4 : (runB x).toList.isEmpty = false := by rw [Lib.toList_data]; show (Pl.run x.data.toList).isEmpty = false; simpa using hd
                        have t5 : (aftB x).toList.isEmpty = false := by
                          rw [Lib.toList_data]; show (Pl.after x.data.toList).isEmpty = false
                          rcases hok with h | h
                          · exact absurd h hd
                          · simpa using h
                        clear hok hd
                        go_wp2_with (go_at_call 16; refine (H16.out _).mono ?_; rintro e w2 ⟨rfl, hb2⟩; have hR2 := hR5.next hb2; have e0 := hR2.c0; have e1 := hR2.c1; have e2 := hR2.c2; have e3 := hR2.f0; have e4 := hR2.f1; have e5 := hR2.f2)
                        obtain ⟨hb, q0, q1, q2⟩ := hR2.put (.bool false) (.string ⟨#[]⟩) (.int .i64 0)
                        exact bodyPost_ret (v := ansV none) (by simp [results, Tryd.results12, go_sem, q0, q1, q2, ansV]) rfl ⟨by rw [HF.out], hb⟩
                    · have HG : Hid (A = Pl.finR neg W.data.toList F.data.toList (Pl.satR x.data.toList * b)) := hid_mk (by rw [HX3.out, if_neg hok])
                      have hd : ¬ Pl.run x.data.toList = [] := fun h => hok (.inl h)
                      have ha : Pl.after x.data.toList = [] := by
                        cases h : Pl.after x.data.toList with
                        | nil => rfl
                        | cons => exact absurd (.inr (by rw [h]; simp)) hok
                      have t4 : (runB x).toList.isEmpty = false := by rw [Lib.toList_data]; show (Pl.run x.data.toList).isEmpty = false; simpa using hd
                      have t5 : (aftB x).toList.isEmpty = true := by rw [Lib.toList_data]; show (Pl.after x.data.toList).isEmpty = true; rw [ha]; rfl
                      have hall : ∀ c ∈ x.data.toList, Pl.isDig c = true := fun c hc => Pl.run_all _ c (by rw [Pl.run_of_after _ ha]; exact hc)
                      have HD := hid_mk hall
                      clear hok HX3 hd ha hall
                      go_wp2_with (go_at_call 16; refine (H16.out _).mono ?_; rintro e w3 ⟨rfl, hb3⟩)
                      have hR6 := hR5.next hb3
                      clear hR5 hb3
                      go_loopg [10] x.size (fun gf e wr => ∃ k : Nat, k + gf = x.size ∧ wr.heap[w3.heap.size]? = some (.stringIter x k) ∧ Below w3.heap.size w3 wr ∧ e = .int .i64 (Pl.satR (x.data.toList.take k)))
                      case atStart => exact ⟨0, by omega, World.iter_heap w3 x 0, (Below.refl _ _).alloc (Nat.le_refl _) _, rfl⟩
                      case round =>
                        obtain ⟨k, hkg, hit, hbw, rfl⟩ := hrel
                        by_cases hlt : k < x.size
                        · obtain ⟨g', rfl⟩ : ∃ g', gk = g' + 1 := ⟨gk - 1, by omega⟩
                          have hdg := HD.out _ (List.mem_of_getElem? (ba_get x k hlt))
                          have hrng : 48 ≤ x[k].toNat ∧ x[k].toNat ≤ 57 := by simpa [Pl.isDig] using hdg
                          have hnx : ∀ ty, (Instr.next (.pointer (some ⟨w3.heap.size, 0, none⟩)) true ty).run Tryd.prog wr = _ := fun ty => Lib.run_next_any_at wr w3.heap.size x k ty hit hlt
                          rw [dec_ascii x k hlt (by omega)] at hnx
                          have hit2 := Lib.iterAt_heap wr w3.heap.size x k (k + 1) hit
                          have hbw2 := Lib.below_iterAt hbw (k := w3.heap.size) (Nat.le_refl _) x (k + 1)
                          obtain ⟨W4, hW4⟩ : ∃ W4, wr.iterAt w3.heap.size x (k + 1) = W4 := ⟨_, rfl⟩
                          have hnx2 : ∀ ty, (Instr.next (.pointer (some ⟨w3.heap.size, 0, none⟩)) true ty).run Tryd.prog wr = .ok (.tuple #[.bool true, .int .i64 k, .int .i32 (x[k].toNat : Int)]) W4 := fun ty => by rw [hnx ty, ← hW4]
                          rw [hW4] at hit2 hbw2
                          clear hnx hW4 hbw hit hdg
                          have hsb := Pl.satR_bound (x.data.toList.take k) (fun c hc => HD.out c (List.mem_of_mem_take hc))
                          have HS : Hid (Pl.satR (x.data.toList.take (k + 1)) = min (Pl.satR (x.data.toList.take k) * 10 + ((x[k].toNat : Int) - 48)) 1048576) := hid_mk (by
                            rw [List.take_succ_eq_append_getElem (by rw [ba_len]; exact hlt)]
                            unfold Pl.satR; rw [List.foldl_append]; rfl)
                          unfold Pl.cap at hsb
                          obtain ⟨sb1, sb2⟩ := hsb
                          obtain ⟨c1, c2⟩ := hrng
                          generalize Pl.satR (x.data.toList.take k) = v at *
                          have c3 : (48 : Int) ≤ (x[k].toNat : Int) := by omega
                          have c4 : (x[k].toNat : Int) ≤ 57 := by omega
                          generalize hcv : (x[k].toNat : Int) = cv at *
                          go_wp2
                          go_roundg g'
                          case measure => omega
                          case rel => exact ⟨k + 1, by omega, hit2, hbw2, by rw [HS.out]⟩
                        · have hnx : ∀ ty, (Instr.next (.pointer (some ⟨w3.heap.size, 0, none⟩)) true ty).run Tryd.prog wr = _ := fun ty => Lib.run_next_end_at wr w3.heap.size x k ty hit hlt
                          have hsb := Pl.satR_bound x.data.toList HD.out
                          unfold Pl.cap at hsb
                          have HK : Hid (x.data.toList.take k = x.data.toList) := hid_mk (List.take_of_length_le (by rw [ba_len]; omega))
                          have hR7 := hR6.next hbw
                          go_wp2
                          go_meet
                          refine ⟨Pl.satR x.data.toList * b, ?_, ?_, ?_, hR7, HG⟩
                          · rw [HK.out]
                            rcases hb1 with rfl | rfl
                            · rw [Int.mul_one]; congr 1; unfold wrap64; omega
                            · congr 1; unfold wrap64; omega
                          · rcases hb1 with rfl | rfl <;> omega
                          · rcases hb1 with rfl | rfl <;> omega
              · have b1 : ((r2[0].toNat : Int) != 101) = true := by rw [bne_iff_ne]; intro e; exact hee (.inl (UInt8.toNat_inj.1 (by show r2[0].toNat = 101; omega)))
                have b2 : ((r2[0].toNat : Int) != 69) = true := by rw [bne_iff_ne]; intro e; exact hee (.inr (UInt8.toNat_inj.1 (by show r2[0].toNat = 69; omega)))
                have HF : Hid (A = none) := hid_mk (by
                  rw [HE.out]; unfold Pl.expR
                  rw [if_neg hr2, hhd, if_neg]
                  rintro (h | h)
                  · exact hee (.inl (Option.some.inj h))
                  · exact hee (.inr (Option.some.inj h)))
                clear hr2 HE hhd hee
                go_wp2_with fail
                obtain ⟨hb, q0, q1, q2⟩ := hR3.put (.bool false) (.string ⟨#[]⟩) (.int .i64 0)
                exact bodyPost_ret (v := ansV none) (by simp [results, Tryd.results12, go_sem, q0, q1, q2, ansV]) rfl ⟨by rw [HF.out], hb⟩
          case rest =>
            obtain ⟨ev, rfl, he1, he2, hR4, HG⟩ := hcut
            clear r0c r1c r2c r0f r1f r2f hR3 HE
            have r0c := hR4.c0
            have r1c := hR4.c1
            have r2c := hR4.c2
            have r0f := hR4.f0
            have r1f := hR4.f1
            have r2f := hR4.f2
            obtain ⟨m, hm⟩ : ∃ m : ByteArray, W ++ F = m := ⟨_, rfl⟩
            have hmd : W.data.toList ++ F.data.toList = m.data.toList := by rw [← hm]; simp
            have HG2 : Hid (A = if (tl (tr m)).data.toList = [] then some (false, [], 0) else some (neg, (tl (tr m)).data.toList, ev - F.size + (tr m).size - (tl (tr m)).size)) := hid_mk (by
              rw [HG.out]; unfold Pl.finR
              rw [hmd]
              have e1 : Lib.trimLeftB m.data.toList 48 = (tr m).data.toList := rfl
              have e2 : Lib.trimRightB (tr m).data.toList 48 = (tl (tr m)).data.toList := rfl
              rw [e1, e2, ba_len, ba_len, ba_len])
            clear HG
            have zm : m.size ≤ 2097152 := by
              have h1 := congrArg List.length hmd
              rw [List.length_append, ba_len, ba_len, ba_len] at h1
              omega
            have ztr := tr_size m
            have ztl := tl_size (tr m)
            have c18 := trimL_any m
            have c19 := fun W => trimR_any (tr m) W (by omega)
            clear hmd
            generalize tr m = dg at *
            generalize tl dg = tt at *
            have H18 := hid_mk c18
            have H19 := hid_mk c19
            clear c18 c19
            by_cases htt : tt.data.toList = []
            · have t6 : tt.toList.isEmpty = true := by rw [Lib.toList_data, htt]; rfl
              have HF : Hid (A = some (false, [], 0)) := hid_mk (by rw [HG2.out, if_pos htt])
              clear HG2 htt
              go_wp2_with (first
                | (go_at_call 18; refine (H18.out _).mono ?_; rintro e w2 ⟨rfl, hw⟩; obtain rfl := hw.symm)
                | (go_at_call 19; refine (H19.out _).mono ?_; rintro e w2 ⟨rfl, hw⟩; obtain rfl := hw.symm))
              obtain ⟨hb, q0, q1, q2⟩ := hR4.put (.bool false) (.string ⟨#[]⟩) (.int .i64 0)
              exact bodyPost_ret (v := ansV (some (false, [], 0))) (by simp [results, Tryd.results12, go_sem, q0, q1, q2, ansV]) rfl ⟨by rw [HF.out], hb⟩
            · have t6 : tt.toList.isEmpty = false := by rw [Lib.toList_data]; simpa using htt
              have HF : Hid (A = some (neg, tt.data.toList, ev - F.size + dg.size - tt.size)) := hid_mk (by rw [HG2.out, if_neg htt])
              clear HG2 htt
              go_wp2_with (first
                | (go_at_call 18; refine (H18.out _).mono ?_; rintro e w2 ⟨rfl, hw⟩; obtain rfl := hw.symm)
                | (go_at_call 19; refine (H19.out _).mono ?_; rintro e w2 ⟨rfl, hw⟩; obtain rfl := hw.symm))
              obtain ⟨hb, q0, q1, q2⟩ := hR4.put (.bool neg) (.string tt) (.int .i64 (ev - F.size + dg.size - tt.size))
              exact bodyPost_ret (v := ansV (some (neg, tt.data.toList, ev - F.size + dg.size - tt.size))) (by simp [results, Tryd.results12, go_sem, q0, q1, q2, ansV]) rfl ⟨by rw [HF.out], hb⟩
end Go.Proofs.Qxb6600799aDoor
