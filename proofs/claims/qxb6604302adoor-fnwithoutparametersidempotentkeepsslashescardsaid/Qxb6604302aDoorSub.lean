/-
  The walk of 'hasSub': it answers whether the second string lies within the first.
-/
import Derived.Test.Qxb6604302aDoorProg
import Derived.Test.Qxb6604302aDoorPlain
import Derived.WalkKit
import Derived.Deep.QuietTactic
import Derived.BigQuiet
import Derived.Outline
namespace Go.Proofs.Qxb6604302aDoor
open Go.RowKit

theorem ba_len (s : ByteArray) : s.data.toList.length = s.size := by rw [Array.length_toList]; rfl
theorem ba_get (s : ByteArray) (k : Nat) (h : k < s.size) : s.data.toList[k]? = some s[k] := by
  rw [List.getElem?_eq_getElem (by rw [ba_len]; exact h)]; rfl
theorem u8_ne {a b : UInt8} (h : ((a.toNat : Int) != (b.toNat : Int)) = true) : a ≠ b := by
  intro e; subst e; simp at h
theorem u8_eq {a b : UInt8} (h : ((a.toNat : Int) != (b.toNat : Int)) = false) : a = b := by
  have : (a.toNat : Int) = (b.toNat : Int) := by simpa using h
  exact UInt8.toNat_inj.1 (by omega)

set_option maxHeartbeats 400000 in
theorem hasSub_any (s sub : ByteArray) (w : World) (hs : s.size ≤ 2097152) (hb : sub.size ≤ 16) (h1 : 1 ≤ sub.size) :
    Calls Tryd.prog 21 #[.string s, .string sub] w fun e w' => e = .returned (.bool (Lib.contains s.data.toList sub.data.toList)) ∧ ∃ n, w' = w.drewN n := by
  go_enter Tryd.func21, Tryd.ntmps21
  go_wp2
  go_loopw [5] (fun i wr => ∃ k : Nat, k ≤ s.size + 1 ∧ i = .int .i64 k ∧ (∀ j, j < k → Lib.occAt s.data.toList sub.data.toList j = false) ∧ ∃ n, wr = w.drewN n) (fun i _ => s.size + 1 - (intOf i).toNat)
  case atStart => exact ⟨0, Nat.zero_le _, rfl, fun _ h => absurd h (Nat.not_lt_zero _), 0, rfl⟩
  case round =>
    obtain ⟨k, hk, rfl, hno, n, rfl⟩ := hrel
    have HN : Hid (∀ j, j < k → Lib.occAt s.data.toList sub.data.toList j = false) := hno
    clear hno
    by_cases hlt : k + sub.size ≤ s.size
    · go_wp2
      go_loopw [6, 7] (fun m i wr => ∃ q : Nat, q ≤ sub.size ∧ m = .bool true ∧ i = .int .i64 q ∧ (∀ j, j < q → s.data.toList[k + j]? = sub.data.toList[j]?) ∧ ∃ n, wr = w.drewN n) (fun _ i _ => sub.size - (intOf i).toNat)
      case atStart => exact ⟨0, Nat.zero_le _, rfl, rfl, fun _ h => absurd h (Nat.not_lt_zero _), n, rfl⟩
      case round =>
        obtain ⟨q, hq, rfl, rfl, heq, n2, rfl⟩ := hrel
        have HE : Hid (∀ j, j < q → s.data.toList[k + j]? = sub.data.toList[j]?) := heq
        clear heq
        by_cases hql : q < sub.size
        · have hql2 : k + q < s.size := by omega
          have i0 : (0 : Int) ≤ (k : Int) + (q : Int) := by omega
          have i1 : (k : Int) + (q : Int) < (s.size : Int) := by omega
          have i2 : (q : Int) < (sub.size : Int) := by omega
          have i3 : IntKind.i64.wrap ((k : Int) + (q : Int)) = (k : Int) + (q : Int) := by rw [IntKind.wrap_i64]; omega
          have i4 : ((k : Int) + (q : Int)).toNat = k + q := by omega
          by_cases hc : s[k+q] = sub[q]
          · have hd : ((s[k+q].toNat : Int) != (sub[q].toNat : Int)) = false := by rw [hc]; simp
            have HC : Hid (s[k+q] = sub[q]) := hc
            clear hc
            go_wp2
            go_quiet (fail)
            go_wp2
            go_roundw
            case rel =>
              refine ⟨q + 1, by omega, rfl, by go_num, fun j hj => ?_, _, rfl⟩
              by_cases e : j = q
              · subst e; rw [ba_get s _ hql2, ba_get sub _ hql, HC.out]
              · exact HE.out j (by omega)
            case measure => simp [intOf]; omega
          · have hd : ((s[k+q].toNat : Int) != (sub[q].toNat : Int)) = true := by
              rw [bne_iff_ne]; intro e; exact hc (UInt8.toNat_inj.1 (by omega))
            have hoc : Lib.occAt s.data.toList sub.data.toList k = false := by
              refine Pl.occ_not (q := q) (by rw [ba_len]; exact hql) ?_
              rw [ba_get s _ hql2, ba_get sub _ hql]
              intro e; exact hc (Option.some.inj e)
            have HC : Hid (Lib.occAt s.data.toList sub.data.toList k = false) := hoc
            clear hc hoc
            go_wp2
            go_quiet (fail)
            go_wp2
            go_roundw
            case rel =>
              refine ⟨k + 1, by omega, by go_num, fun j hj => ?_, _, rfl⟩
              by_cases e : j = k
              · subst e; exact HC.out
              · exact HN.out j (by omega)
            case measure => simp [intOf]; omega
        · have hoc : Lib.occAt s.data.toList sub.data.toList k = true := by
            refine Pl.occ_of_all (by rw [ba_len, ba_len]; exact hlt) (fun j hj => HE.out j (by rw [ba_len] at hj; omega))
          have HC : Hid (Lib.contains s.data.toList sub.data.toList = true) := Pl.contains_of_occ hoc
          clear hoc
          go_wp2
          go_ret
          exact ⟨by rw [HC.out]; rfl, _, rfl⟩
    · have HC : Hid (Lib.contains s.data.toList sub.data.toList = false) :=
        Pl.contains_none (by intro e; have := ba_len sub; rw [e] at this; simp at this; omega) HN.out (by rw [ba_len, ba_len]; omega)
      go_wp2
      go_ret
      exact ⟨by rw [HC.out]; rfl, _, rfl⟩
end Go.Proofs.Qxb6604302aDoor
