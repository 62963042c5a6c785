/-
  The walks of 'zzIsDigit', 'cutDigits' and its closure.
-/
import Derived.Test.Qxb6600799aDoorShelf
import Derived.Test.Qxb6600799aDoorPlain
import Derived.WalkKit
import Derived.WalkSmall
import Derived.Outline
import Derived.Deep.QuietTactic
import Derived.BigQuiet
namespace Go.Proofs.Qxb6600799aDoor
open Go.RowKit Go.Shelf
set_option linter.unusedVariables false

theorem bdrew {B : Nat} {a w : World} (h : Below B a w) (n : Nat) : Below B a (w.drewN n) := h.trans ⟨rfl, rfl, rfl, Nat.le_refl _, fun _ _ => rfl⟩
theorem hid_mk {p : Prop} (h : p) : Hid p := h
theorem ba_len (s : ByteArray) : s.data.toList.length = s.size := by rw [Array.length_toList]; rfl
theorem ba_get (s : ByteArray) (k : Nat) (h : k < s.size) : s.data.toList[k]? = some s[k] := by
  rw [List.getElem?_eq_getElem (by rw [ba_len]; exact h)]; rfl
theorem ba_ext {x y : ByteArray} (h : x.data.toList = y.data.toList) : x = y := by
  rw [← Lib.mk_data x, ← Lib.mk_data y, h]
theorem ba_mk (x : ByteArray) (l : List UInt8) (h : x.data.toList = l) : x = ⟨l.toArray⟩ := ba_ext h

/-- The test of the closure, on a rune. -/
def notDig (r : Nat) : Bool := decide (r < 48) || decide (57 < r)

theorem dec_ascii (s : ByteArray) (k : Nat) (h : k < s.size) (ha : s[k].toNat < 128) : Utf8.decode s k = (s[k].toNat, 1) := by
  have e : s.get! k = s[k] := by simp [ByteArray.get!, h]; rfl
  unfold Utf8.decode
  simp only [Nat.add_zero, e]
  rw [if_pos ha]

theorem dec_high (s : ByteArray) (k : Nat) (h : k < s.size) (ha : ¬ s[k].toNat < 128) : 128 ≤ (Utf8.decode s k).1 := by
  have e : s.get! k = s[k] := by simp [ByteArray.get!, h]; rfl
  unfold Utf8.decode
  simp only [Nat.add_zero, e]
  rw [if_neg ha]
  split
  · split
    · rename_i hc; simpa using hc
    · simp [Utf8.runeError]
  · split
    · split
      · rename_i hc; simp at hc; omega
      · simp [Utf8.runeError]
    · split
      · split
        · rename_i hc; simp at hc; omega
        · simp [Utf8.runeError]
      · simp [Utf8.runeError]

theorem idx_run (s : ByteArray) : ∀ (f pos : Nat), pos ≤ s.size → s.size ≤ pos + f →
    Lib.idxFuncFrom notDig true s f pos = if Pl.after (s.data.toList.drop pos) = [] then -1 else ((pos + (Pl.run (s.data.toList.drop pos)).length : Nat) : Int)
  | 0, pos, hp, hf => by
    have : s.data.toList.drop pos = [] := List.drop_eq_nil_of_le (by rw [ba_len]; omega)
    rw [this]; simp [Lib.idxFuncFrom, Pl.after]
  | f + 1, pos, hp, hf => by
    by_cases hlt : pos < s.size
    · have hd : s.data.toList.drop pos = s[pos] :: s.data.toList.drop (pos + 1) := List.drop_eq_getElem_cons (by rw [ba_len]; exact hlt)
      rw [Lib.idxFuncFrom, if_pos hlt, hd]
      cases hg : Pl.isDig s[pos] with
      | true =>
        have hb : 48 ≤ s[pos].toNat ∧ s[pos].toNat ≤ 57 := by simpa [Pl.isDig] using hg
        have hdec := dec_ascii s pos hlt (by omega)
        have hn : notDig s[pos].toNat = false := by simp [notDig]; omega
        rw [hdec]
        simp only
        rw [hn, if_neg (by simp), idx_run s f (pos + 1) (by omega) (by omega), Pl.after_cons _ _ hg, Pl.run_cons _ _ hg]
        split
        · rfl
        · simp; omega
      | false =>
        have hn : notDig (Utf8.decode s pos).1 = true := by
          by_cases ha : s[pos].toNat < 128
          · rw [dec_ascii s pos hlt ha]
            simp only [notDig, Bool.or_eq_true, decide_eq_true_eq]
            simp [Pl.isDig] at hg
            omega
          · have := dec_high s pos hlt ha
            simp only [notDig, Bool.or_eq_true, decide_eq_true_eq]
            omega
        rw [if_pos hn]
        have e1 : Pl.after (s[pos] :: s.data.toList.drop (pos + 1)) = s[pos] :: s.data.toList.drop (pos + 1) := by
          unfold Pl.after; rw [List.dropWhile_cons, hg]; rfl
        have e2 : Pl.run (s[pos] :: s.data.toList.drop (pos + 1)) = [] := by
          unfold Pl.run; rw [List.takeWhile_cons, hg]; rfl
        rw [e1, e2, if_neg (by simp)]
        simp
    · rw [Lib.idxFuncFrom, if_neg hlt]
      have : s.data.toList.drop pos = [] := List.drop_eq_nil_of_le (by rw [ba_len]; omega)
      rw [this]; simp [Pl.after]

theorem idx_all (s : ByteArray) : Lib.idxFunc notDig true s = if Pl.after s.data.toList = [] then -1 else (((Pl.run s.data.toList).length : Nat) : Int) := by
  have := idx_run s s.size 0 (Nat.zero_le _) (by omega)
  unfold Lib.idxFunc
  rw [this]; simp

set_option maxHeartbeats 400000 in
theorem clo_any (r : Nat) (w : World) (hr : r ≤ 1114111) :
    Calls Tryd.prog 22 #[.int .i32 (r : Int)] w fun e w' => e = .returned (.bool (notDig r)) ∧ ∃ q, w' = w.drewN q := by
  by_cases h1 : r < 48
  · have HN : Hid (notDig r = true) := hid_mk (by simp [notDig, h1])
    go_enter Tryd.func22, Tryd.ntmps22
    go_wp2
    go_ret
    exact ⟨by rw [HN.out]; rfl, 0, rfl⟩
  · by_cases h2 : 57 < r
    · have HN : Hid (notDig r = true) := hid_mk (by simp [notDig, h2])
      go_enter Tryd.func22, Tryd.ntmps22
      go_wp2
      go_ret
      exact ⟨by rw [HN.out]; simp; omega, 0, rfl⟩
    · have HN : Hid (notDig r = false) := hid_mk (by simp [notDig]; omega)
      go_enter Tryd.func22, Tryd.ntmps22
      go_wp2
      go_ret
      exact ⟨by rw [HN.out]; simp; omega, 0, rfl⟩

def runB (s : ByteArray) : ByteArray := ⟨(Pl.run s.data.toList).toArray⟩
def aftB (s : ByteArray) : ByteArray := ⟨(Pl.after s.data.toList).toArray⟩

theorem idx_any (s : ByteArray) (w : World) :
    Calls Tryd.prog 21 #[.string s, .func (.func 22) #[] #[]] w fun e w' => e = .returned (.int .i64 (Lib.idxFunc notDig true s)) ∧ Below w.heap.size w w' :=
  Tryd.strings_IndexFunc_runes 22 #[] (enters_of Tryd.func22 (by kernel_rfl) rfl) notDig s w (fun W x hx _ => clo_any x W hx)

set_option maxHeartbeats 400000 in
theorem cut_any (s : ByteArray) (w : World) (hs : s.size ≤ 4194304) :
    Calls Tryd.prog 16 #[.string s] w fun e w' => e = .returned (.tuple #[.string (runB s), .string (aftB s)]) ∧ Below w.heap.size w w' := by
  have hidx := idx_all s
  have c := idx_any s w
  by_cases ha : Pl.after s.data.toList = []
  · rw [if_pos ha] at hidx
    rw [hidx] at c
    have H1 : Hid (s = runB s) := hid_mk (ba_mk _ _ (Pl.run_of_after _ ha).symm)
    have H2 : Hid ((⟨#[]⟩ : ByteArray) = aftB s) := hid_mk (ba_mk _ _ ha.symm)
    have HC := hid_mk c
    clear c hidx ha
    go_enter Tryd.func16, Tryd.ntmps16
    go_wp2_with (go_at_call 21; refine HC.out.mono ?_; rintro e w1 ⟨rfl, hb⟩)
    go_ret2
    exact ⟨by rw [← H1.out, ← H2.out]; rfl, hb⟩
  · rw [if_neg ha] at hidx
    rw [hidx] at c
    have hl := congrArg List.length (Pl.run_after s.data.toList)
    rw [List.length_append, ba_len] at hl
    have hpos : 0 < (Pl.after s.data.toList).length := List.length_pos_iff.2 ha
    have H1 : Hid (s.extract 0 (Pl.run s.data.toList).length = runB s) := hid_mk (ba_mk _ _ (by
      rw [Lib.extract_data, List.drop_zero, Nat.sub_zero]
      exact Pl.take_run _))
    have H2 : Hid (s.extract (Pl.run s.data.toList).length s.size = aftB s) := hid_mk (ba_mk _ _ (by
      rw [Lib.extract_data, List.take_of_length_le (by rw [List.length_drop, ba_len]; exact Nat.le_refl _)]
      exact Pl.drop_run _))
    generalize hk : (Pl.run s.data.toList).length = k at *
    have HC := hid_mk c
    have hks : k < s.size := by omega
    have i0 : (0 : Int) ≤ (k : Int) := by omega
    have i1 : (k : Int) ≤ (s.size : Int) := by omega
    clear c hidx ha hl hpos hk
    go_enter Tryd.func16, Tryd.ntmps16
    go_wp2_with (go_at_call 21; refine HC.out.mono ?_; rintro e w1 ⟨rfl, hb⟩)
    go_quiet (fail)
    go_wp2
    go_ret2
    exact ⟨by rw [← H1.out, ← H2.out]; rfl, bdrew hb _⟩

set_option maxHeartbeats 400000 in
theorem dig_any (c : UInt8) (w : World) :
    Calls Tryd.prog 13 #[.int .u8 (c.toNat : Int)] w fun e w' => e = .returned (.bool (Pl.isDig c)) ∧ w' = w := by
  by_cases h1 : 48 ≤ c.toNat
  · by_cases h2 : c.toNat ≤ 57
    · have HN : Hid (Pl.isDig c = true) := hid_mk (by simp [Pl.isDig, h1, h2])
      go_enter Tryd.func13, Tryd.ntmps13
      go_wp2
      go_ret
      exact ⟨by rw [HN.out]; simp; omega, rfl⟩
    · have HN : Hid (Pl.isDig c = false) := hid_mk (by simp [Pl.isDig]; omega)
      go_enter Tryd.func13, Tryd.ntmps13
      go_wp2
      go_ret
      exact ⟨by rw [HN.out]; simp; omega, rfl⟩
  · have HN : Hid (Pl.isDig c = false) := hid_mk (by simp [Pl.isDig]; omega)
    go_enter Tryd.func13, Tryd.ntmps13
    go_wp2
    go_ret
    exact ⟨by rw [HN.out]; rfl, rfl⟩
end Go.Proofs.Qxb6600799aDoor
