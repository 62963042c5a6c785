/-
  The walks of the small functions.
-/
import Derived.Test.Qxb6601124aDoorShelf
import Derived.Test.Qxb6601124aDoorPlain
import Derived.WalkKit
import Derived.WalkSmall
import Derived.Outline
import Derived.Deep.QuietTactic
import Derived.BigQuiet
namespace Go.Proofs.Qxb6601124aDoor
open Go.RowKit Go.Shelf
set_option linter.unusedVariables false

theorem bdrew {B : Nat} {a w : World} (h : Below B a w) (n : Nat) : Below B a (w.drewN n) := h.trans ⟨rfl, rfl, rfl, Nat.le_refl _, fun _ _ => rfl⟩
theorem hid_mk {p : Prop} (h : p) : Hid p := h
theorem ba_len (s : ByteArray) : s.data.toList.length = s.size := by rw [Array.length_toList]; rfl
theorem ba_get (s : ByteArray) (k : Nat) (h : k < s.size) : s.data.toList[k]? = some s[k] := by
  rw [List.getElem?_eq_getElem (by rw [ba_len]; exact h)]; rfl
theorem ba_ext {x y : ByteArray} (h : x.data.toList = y.data.toList) : x = y := by
  rw [← Lib.mk_data x, ← Lib.mk_data y, h]
theorem ba_drop (s : ByteArray) (k : Nat) (h : k < s.size) : s.data.toList.drop k = s[k] :: s.data.toList.drop (k + 1) :=
  List.drop_eq_getElem_cons (by rw [ba_len]; exact h)
theorem ba_nil (s : ByteArray) (k : Nat) (h : s.size ≤ k) : s.data.toList.drop k = [] := List.drop_eq_nil_of_le (by rw [ba_len]; exact h)
theorem b8 (a c : UInt8) (n : Int) (hn : n = (c.toNat : Int)) : ((a.toNat : Int) == n) = (a == c) := by
  subst hn
  rw [Bool.eq_iff_iff, beq_iff_eq, beq_iff_eq]
  exact ⟨fun h => UInt8.toNat_inj.1 (by omega), fun h => by rw [h]⟩

/-- A run, place by place. -/
theorem tw1 (p : UInt8 → Bool) : ∀ (r : List UInt8) (k : Nat) (d : UInt8), r[k]? = some d → (k < (r.takeWhile p).length → p d = true) ∧ (k = (r.takeWhile p).length → p d = false)
  | [], k, d, h => by simp at h
  | c :: r, 0, d, h => by
    have : c = d := by simpa using h
    subst this
    by_cases hc : p c = true
    · rw [List.takeWhile_cons, if_pos hc]
      exact ⟨fun _ => hc, fun h => by simp at h⟩
    · rw [List.takeWhile_cons, if_neg hc]
      exact ⟨fun h => by simp at h, fun _ => by simpa using hc⟩
  | c :: r, k + 1, d, h => by
    have h' : r[k]? = some d := by simpa using h
    by_cases hc : p c = true
    · rw [List.takeWhile_cons, if_pos hc]
      have := tw1 p r k d h'
      exact ⟨fun h => this.1 (by simpa using h), fun h => this.2 (by simpa using h)⟩
    · rw [List.takeWhile_cons, if_neg hc]
      exact ⟨fun h => by simp at h, fun h => by simp at h⟩

set_option maxRecDepth 100000 in
theorem dig_cs (c : UInt8) : ([48, 49, 50, 51, 52, 53, 54, 55, 56, 57] : List UInt8).contains c = Pl.isDig c := by
  have key : ∀ n : Fin 256, ([48, 49, 50, 51, 52, 53, 54, 55, 56, 57] : List UInt8).contains (UInt8.ofNat n.val) = Pl.isDig (UInt8.ofNat n.val) := by decide
  have := key ⟨c.toNat, c.toNat_lt⟩
  simpa using this

theorem tw_le (p : UInt8 → Bool) (s : ByteArray) : (s.data.toList.takeWhile p).length ≤ s.size := by
  rw [← ba_len]; exact (List.takeWhile_prefix _).length_le

set_option maxHeartbeats 1000000 in
theorem digrun_any (s : ByteArray) (w : World) (hs : s.size ≤ 1048576) :
    Calls Tryd.prog 13 #[.string s] w fun e w' => e = .returned (.int .i64 ((Pl.run s.data.toList).length : Int)) ∧ w' = w := by
  have hle : (Pl.run s.data.toList).length ≤ s.size := tw_le _ s
  have htw := fun k (h : k < s.size) => tw1 Pl.isDig s.data.toList k s[k] (ba_get s k h)
  have HT : Hid (∀ k (h : k < s.size), (k < (Pl.run s.data.toList).length → Pl.isDig s[k] = true) ∧ (k = (Pl.run s.data.toList).length → Pl.isDig s[k] = false)) := hid_mk htw
  clear htw
  generalize (Pl.run s.data.toList).length = L at *
  go_enter Tryd.func13, Tryd.ntmps13
  go_wp2_with fail
  go_loopg [3] L (fun gf x wr => ∃ k : Nat, k + gf = L ∧ x = .int .i64 k ∧ w = wr)
  case atStart => exact ⟨0, by omega, rfl, rfl⟩
  case round =>
    obtain ⟨k, hkg, rfl, rfl⟩ := hrel
    by_cases hlt : k < L
    · obtain ⟨g', rfl⟩ : ∃ g', gk = g' + 1 := ⟨gk - 1, by omega⟩
      have hks : k < s.size := by omega
      have hd := (HT.out k hks).1 hlt
      unfold Pl.isDig at hd
      rw [Bool.and_eq_true, decide_eq_true_eq, decide_eq_true_eq] at hd
      obtain ⟨d1, d2⟩ := hd
      go_wp2_with fail
      go_roundg g'
      case measure => omega
      case rel => exact ⟨k + 1, by omega, by go_num, rfl⟩
    · have HK : Hid (k = L) := hid_mk (by omega)
      by_cases hks : k < s.size
      · have hd := (HT.out k hks).2 HK.out
        unfold Pl.isDig at hd
        rw [Bool.and_eq_false_iff, decide_eq_false_iff_not, decide_eq_false_iff_not] at hd
        clear hkg hlt
        rcases hd with hd | hd
        · go_wp2_with fail
          go_ret
          exact ⟨by rw [← HK.out] <;> rfl, rfl⟩
        · have d1 : 48 ≤ s[k].toNat := by omega
          go_wp2_with fail
          go_ret
          exact ⟨by rw [← HK.out] <;> rfl, rfl⟩
      · clear hkg hlt
        go_wp2_with fail
        go_ret
        exact ⟨by rw [← HK.out] <;> rfl, rfl⟩

theorem sig_sub (l : List UInt8) : (Pl.sig l).length + (l.takeWhile (· == 48)).length = l.length := by
  have := congrArg List.length (List.takeWhile_append_dropWhile (p := (· == 48)) (l := l))
  rw [List.length_append] at this
  unfold Pl.sig Lib.trimLeftB
  omega

set_option maxHeartbeats 1000000 in
theorem signif_any (s : ByteArray) (w : World) (hs : s.size ≤ 1048576) :
    Calls Tryd.prog 12 #[.string s] w fun e w' => e = .returned (.int .i64 ((Pl.sig s.data.toList).length : Int)) ∧ w' = w := by
  have hle : (s.data.toList.takeWhile (· == 48)).length ≤ s.size := tw_le _ s
  have htw := fun k (h : k < s.size) => tw1 (· == 48) s.data.toList k s[k] (ba_get s k h)
  have HT := hid_mk htw
  have hsub := sig_sub s.data.toList
  rw [ba_len] at hsub
  clear htw
  generalize (s.data.toList.takeWhile (· == 48)).length = L at *
  generalize (Pl.sig s.data.toList).length = G at *
  go_enter Tryd.func12, Tryd.ntmps12
  go_wp2_with fail
  go_loopg [3] L (fun gf x wr => ∃ k : Nat, k + gf = L ∧ x = .int .i64 k ∧ w = wr)
  case atStart => exact ⟨0, by omega, rfl, rfl⟩
  case round =>
    obtain ⟨k, hkg, rfl, rfl⟩ := hrel
    by_cases hlt : k < L
    · obtain ⟨g', rfl⟩ : ∃ g', gk = g' + 1 := ⟨gk - 1, by omega⟩
      have hks : k < s.size := by omega
      have hd : (s[k] == 48) = true := (HT.out k hks).1 hlt
      have hd2 : ((s[k].toNat : Int) == 48) = true := by rw [b8 _ 48 48 rfl]; exact hd
      clear hd
      go_wp2_with fail
      go_roundg g'
      case measure => omega
      case rel => exact ⟨k + 1, by omega, by go_num, rfl⟩
    · have HK : Hid (k = L) := hid_mk (by omega)
      have HG : Hid ((s.size : Int) - (k : Int) = (G : Int)) := hid_mk (by omega)
      have hk2 : k ≤ s.size := by omega
      by_cases hks : k < s.size
      · have hd : (s[k] == 48) = false := (HT.out k hks).2 HK.out
        have hd2 : ((s[k].toNat : Int) == 48) = false := by rw [b8 _ 48 48 rfl]; exact hd
        clear hkg hlt hd
        go_wp2_with fail
        go_ret
        exact ⟨by rw [← HG.out] <;> rfl, rfl⟩
      · clear hkg hlt
        go_wp2_with fail
        go_ret
        exact ⟨by rw [← HG.out] <;> rfl, rfl⟩

set_option maxHeartbeats 1000000 in
theorem sign_any (n : Int) (w : World) : Calls Tryd.prog 14 #[.int .i64 n] w fun e w' => e = .returned (.int .i64 (Pl.sgn n)) ∧ w' = w := by
  by_cases h1 : n < 0
  · have H : Hid (Pl.sgn n = -1) := hid_mk (by unfold Pl.sgn; rw [if_pos h1])
    go_enter Tryd.func14, Tryd.ntmps14
    go_wp2_with fail
    go_ret
    exact ⟨by rw [H.out] <;> rfl, rfl⟩
  · by_cases h2 : 0 < n
    · have H : Hid (Pl.sgn n = 1) := hid_mk (by unfold Pl.sgn; rw [if_neg h1, if_pos h2])
      go_enter Tryd.func14, Tryd.ntmps14
      go_wp2_with fail
      go_ret
      exact ⟨by rw [H.out] <;> rfl, rfl⟩
    · have H : Hid (Pl.sgn n = 0) := hid_mk (by unfold Pl.sgn; rw [if_neg h1, if_neg h2])
      go_enter Tryd.func14, Tryd.ntmps14
      go_wp2_with fail
      go_ret
      exact ⟨by rw [H.out] <;> rfl, rfl⟩
end Go.Proofs.Qxb6601124aDoor
