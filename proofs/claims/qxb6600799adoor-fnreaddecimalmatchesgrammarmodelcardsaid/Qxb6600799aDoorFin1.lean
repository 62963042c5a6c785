/-
  The first and the last digit that is not 0; the walk of 'zzMantissaDigit'.
-/
import Derived.Test.Qxb6600799aDoorCur
namespace Go.Proofs.Qxb6600799aDoor
open Go.RowKit Go.Shelf
set_option linter.unusedVariables false

theorem upto_z (a : List UInt8) : Pl.upto (a ++ [48]) = Pl.upto a := by
  unfold Pl.upto Lib.trimRightB; simp
theorem upto_nz (a : List UInt8) (c : UInt8) (h : c ≠ 48) : Pl.upto (a ++ [c]) = a.length + 1 := by
  have hb : (c == 48) = false := by simpa using h
  unfold Pl.upto Lib.trimRightB; simp [hb]
theorem upto_all (a : List UInt8) : Pl.upto a = 0 ↔ ∀ x ∈ a, (x == 48) = true := by
  unfold Pl.upto Lib.trimRightB
  constructor
  · intro h x hx
    have h2 : a.reverse.dropWhile (· == 48) = [] := by simpa using h
    exact Pl.dw_nil _ _ h2 x (by simpa using hx)
  · intro h
    have hall : ∀ l : List UInt8, (∀ x ∈ l, (x == 48) = true) → l.dropWhile (· == 48) = [] := by
      intro l
      induction l with
      | nil => intro _; rfl
      | cons d l ih => intro hl; rw [List.dropWhile_cons, if_pos (hl d (by simp))]; exact ih fun x hx => hl x (by simp [hx])
    rw [hall a.reverse fun x hx => h x (by simpa using hx)]; rfl
theorem tw_all : ∀ (l : List UInt8), (∀ x ∈ l, (x == 48) = true) → l.takeWhile (· == 48) = l
  | [], _ => rfl
  | d :: l, h => by rw [List.takeWhile_cons, if_pos (h d (by simp)), tw_all l fun x hx => h x (by simp [hx])]
theorem lead_keep (a : List UInt8) (c : UInt8) (h : Pl.upto a ≠ 0) : Pl.lead (a ++ [c]) = Pl.lead a := by
  unfold Pl.lead
  rw [List.takeWhile_append, if_neg]
  intro he
  apply h
  rw [upto_all]
  have : a.takeWhile (· == 48) = a := (List.takeWhile_prefix _).eq_of_length he
  rw [← this]
  intro x hx
  rw [this] at hx
  have h2 := List.all_takeWhile (l := a) (p := (· == 48))
  rw [this] at h2
  exact List.all_eq_true.1 h2 x hx
theorem lead_new (a : List UInt8) (c : UInt8) (h : Pl.upto a = 0) (hc : c ≠ 48) : Pl.lead (a ++ [c]) = a.length := by
  have hb : (c == 48) = false := by simpa using hc
  have : a.takeWhile (· == 48) = a := tw_all a ((upto_all a).1 h)
  unfold Pl.lead
  rw [List.takeWhile_append, this, if_pos rfl]
  simp [hb]
theorem lead_lt : ∀ (n : Nat) (a : List UInt8), a.length = n → Pl.upto a ≠ 0 → Pl.lead a < Pl.upto a := by
  intro n
  induction n with
  | zero => intro a h h2; cases a with
    | nil => exact absurd rfl h2
    | cons => simp at h
  | succ n ih =>
    intro a h h2
    rcases List.eq_nil_or_concat a with rfl | ⟨b, c, hb⟩
    · simp at h
    · rw [List.concat_eq_append] at hb
      rw [hb] at h h2 ⊢
      have hl : b.length = n := by simpa using h
      by_cases hz : Pl.upto b = 0
      · by_cases hc : c = 48
        · subst hc; rw [upto_z] at h2; exact absurd hz h2
        · rw [lead_new b c hz hc, upto_nz b c hc]; omega
      · have := ih b hl hz
        rw [lead_keep b c hz]
        by_cases hc : c = 48
        · subst hc; rw [upto_z]; exact this
        · rw [upto_nz b c hc]; have := Pl.upto_le b; omega

theorem at_of_take {s : ByteArray} {ws p : Nat} {W : List UInt8} {c : UInt8} (hW : (s.data.toList.drop ws).take W.length = W) (hc : W[p]? = some c) (h : ws + p < s.size) : s[ws + p] = c := by
  have hp : p < W.length := (List.getElem?_eq_some_iff.1 hc).1
  rw [← hW, List.getElem?_take_of_lt hp, List.getElem?_drop, ba_get s (ws + p) h] at hc
  exact Option.some.inj hc

set_option maxHeartbeats 1000000 in
theorem mant_any (s : ByteArray) (ws fs : Nat) (W F : List UInt8) (p : Nat) (c : UInt8) (w : World) (hs : s.size ≤ 1048576) (hw : ws + W.length ≤ s.size) (hf : fs + F.length ≤ s.size) (hW : (s.data.toList.drop ws).take W.length = W) (hF : (s.data.toList.drop fs).take F.length = F) (hc : (W ++ F)[p]? = some c) :
    Calls Tryd.prog 14 #[.string s, .int .i64 ws, .int .i64 ((ws + W.length : Nat) : Int), .int .i64 fs, .int .i64 p] w fun e w' => e = .returned (.int .u8 c.toNat) ∧ w' = w := by
  have hpl : p < W.length + F.length := by
    have := (List.getElem?_eq_some_iff.1 hc).1
    simpa using this
  have e1 : ((ws + W.length : Nat) : Int) - (ws : Int) = (W.length : Int) := by omega
  by_cases hp : p < W.length
  · have hc1 : W[p]? = some c := by rw [List.getElem?_append_left hp] at hc; exact hc
    have hlt : ws + p < s.size := by omega
    have hat : s[ws + p] = c := at_of_take hW hc1 hlt
    have HT := hid_mk hW
    clear hW hF hc hc1 HT
    go_enter Tryd.func14, Tryd.ntmps14
    go_wp2_with fail
    go_ret
    exact ⟨rfl, rfl⟩
  · obtain ⟨q, rfl⟩ : ∃ q, p = W.length + q := ⟨p - W.length, by omega⟩
    have hc1 : F[q]? = some c := by rw [List.getElem?_append_right (by omega)] at hc; simpa using hc
    have hlt : fs + q < s.size := by omega
    have hlt2 : fs + (W.length + q) - W.length < s.size := by omega
    have hat : s[fs + (W.length + q) - W.length] = c := by
      have h := at_of_take hF hc1 hlt
      have e : fs + (W.length + q) - W.length = fs + q := by omega
      simp only [e]; exact h
    clear hW hF hc hc1
    go_enter Tryd.func14, Tryd.ntmps14
    go_wp2_with fail
    go_ret
    exact ⟨rfl, rfl⟩
end Go.Proofs.Qxb6600799aDoor
