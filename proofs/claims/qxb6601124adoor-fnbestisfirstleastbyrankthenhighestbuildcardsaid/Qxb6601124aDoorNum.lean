/-
  The walk of 'zzNumCmp'.
-/
import Derived.Test.Qxb6601124aDoorWalk
import Derived.Deep.DeepCutAuto
import Derived.OwnWalk
namespace Go.Proofs.Qxb6601124aDoor
open Go.RowKit Go.Shelf
set_option linter.unusedVariables false

theorem pad_len (n : Nat) (x : ByteArray) (hx : x.size ≤ n) : (Pl.pad n x.data.toList).length = n := by
  unfold Pl.pad
  rw [List.length_append, List.length_replicate, ba_len]; omega

theorem pad_at (n : Nat) (x : ByteArray) (g : Nat) (hg : g + 1 ≤ n) (hx : x.size ≤ n) :
    ∃ c, (Pl.pad n x.data.toList).drop (n - (g + 1)) = c :: (Pl.pad n x.data.toList).drop (n - g) ∧ (∀ (_ : g + 1 ≤ x.size) (h : x.size - (g + 1) < x.size), x[x.size - (g + 1)] = c) ∧ (¬ g + 1 ≤ x.size → c = 48) := by
  have hl := pad_len n x hx
  have hlt : n - (g + 1) < (Pl.pad n x.data.toList).length := by omega
  refine ⟨(Pl.pad n x.data.toList)[n - (g + 1)], ?_, ?_, ?_⟩
  · rw [List.drop_eq_getElem_cons hlt]
    have : n - (g + 1) + 1 = n - g := by omega
    rw [this]
  · intro h1 h2
    have e : (Pl.pad n x.data.toList)[n - (g + 1)]? = some x[x.size - (g + 1)] := by
      unfold Pl.pad
      rw [List.getElem?_append_right (by rw [List.length_replicate, ba_len]; omega), List.length_replicate, ba_len]
      have : n - (g + 1) - (n - x.size) = x.size - (g + 1) := by omega
      rw [this]; exact ba_get x _ h2
    rw [List.getElem?_eq_getElem hlt] at e
    exact (Option.some.inj e).symm
  · intro h1
    have e : (Pl.pad n x.data.toList)[n - (g + 1)]? = some 48 := by
      unfold Pl.pad
      rw [List.getElem?_append_left (by rw [List.length_replicate, ba_len]; omega), List.getElem?_replicate, if_pos (by rw [ba_len]; omega)]
    rw [List.getElem?_eq_getElem hlt] at e
    exact Option.some.inj e

set_option maxHeartbeats 2000000 in
theorem num_any (x y : ByteArray) (w : World) (hx : x.size ≤ 1048576) (hy : y.size ≤ 1048576) :
    Calls Tryd.prog 35 #[.string x, .string y] w fun e w' => e = .returned (.int .i64 (Pl.num x.data.toList y.data.toList)) ∧ w' = w := by
  obtain ⟨n, hn⟩ : ∃ n, max x.size y.size = n := ⟨_, rfl⟩
  have hA : Pl.num x.data.toList y.data.toList = Pl.cmp (Pl.pad n x.data.toList) (Pl.pad n y.data.toList) := by
    unfold Pl.num; rw [ba_len, ba_len, hn]
  have hxn : x.size ≤ n := by omega
  have hyn : y.size ≤ n := by omega
  have hpx := fun g (hg : g + 1 ≤ n) => pad_at n x g hg hxn
  have hpy := fun g (hg : g + 1 ≤ n) => pad_at n y g hg hyn
  have hlx := pad_len n x hxn
  have hly := pad_len n y hyn
  generalize Pl.num x.data.toList y.data.toList = A at *
  generalize Pl.pad n x.data.toList = X at *
  generalize Pl.pad n y.data.toList = Y at *
  have HA := hid_mk hA
  have HPX := hid_mk hpx
  have HPY := hid_mk hpy
  have HLX := hid_mk hlx
  have HLY := hid_mk hly
  clear hA hpx hpy hlx hly
  have hn6 : n ≤ 1048576 := by omega
  go_enter Tryd.func35, Tryd.ntmps35
  go_upto_if 14 with fail
  go_cut [5] (fun v wc => v = .int .i64 n ∧ w = wc)
  case first =>
    clear HA HPX HPY HLX HLY
    by_cases h : x.size < y.size
    · have HN : Hid ((n : Int) = (y.size : Int)) := hid_mk (by omega)
      clear hn hxn hyn
      go_wp2_with fail
      go_meet
      exact ⟨by rw [HN.out], rfl⟩
    · have HN : Hid ((n : Int) = (x.size : Int)) := hid_mk (by omega)
      clear hn hxn hyn
      go_wp2_with fail
      go_meet
      exact ⟨by rw [HN.out], rfl⟩
  case rest =>
    obtain ⟨rfl, rfl⟩ := hcut
    clear hn
    go_wp2_with fail
    go_loopg [6, 7, 8] n (fun gf p cx cy wr => gf ≤ n ∧ p = .int .i64 gf ∧ Hid (A = Pl.cmp (X.drop (n - gf)) (Y.drop (n - gf))) ∧ w = wr)
    case atStart => exact ⟨Nat.le_refl _, rfl, hid_mk (by rw [Nat.sub_self]; exact HA.out), rfl⟩
    case round =>
      obtain ⟨hkg, rfl, HR, rfl⟩ := hrel
      clear HA
      cases gk with
      | zero =>
        have H0 : Hid (A = 0) := hid_mk (by
          rw [HR.out, List.drop_eq_nil_of_le (by rw [HLX.out]; omega), List.drop_eq_nil_of_le (by rw [HLY.out]; omega)]; rfl)
        clear HR
        go_wp2_with fail
        go_ret
        exact ⟨by rw [H0.out] <;> rfl, rfl⟩
      | succ g =>
        obtain ⟨c, hc1, hc2, hc3⟩ := HPX.out g hkg
        obtain ⟨d, hd1, hd2, hd3⟩ := HPY.out g hkg
        have HR2 : Hid (A = Pl.cmp (c :: X.drop (n - g)) (d :: Y.drop (n - g))) := hid_mk (by rw [HR.out, hc1, hd1])
        have HC2 := hid_mk hc2
        have HC3 := hid_mk hc3
        have HD2 := hid_mk hd2
        have HD3 := hid_mk hd3
        clear HPX HPY HLX HLY HR hc1 hd1 hc2 hc3 hd2 hd3
        go_upto_if 25 with fail
        go_cut [7] (fun v wc => v = .int .u8 c.toNat ∧ w = wc)
        case first =>
          by_cases h : g + 1 ≤ x.size
          · have h2 : x.size - (g + 1) < x.size := by omega
            have h3 := HC2.out h h2
            clear HC2 HC3 HD2 HD3 HR2
            go_wp2_with fail
            go_meet
            exact ⟨by first | rfl | rw [h3], rfl⟩
          · have h3 := HC3.out h
            subst h3
            clear HC2 HC3 HD2 HD3 HR2
            go_wp2_with fail
            go_meet
            exact ⟨rfl, rfl⟩
        case rest =>
          obtain ⟨rfl, rfl⟩ := hcut
          clear HC2 HC3
          go_upto_if 35 with fail
          go_cut [8] (fun v wc => v = .int .u8 d.toNat ∧ w = wc)
          case first =>
            by_cases h : g + 1 ≤ y.size
            · have h2 : y.size - (g + 1) < y.size := by omega
              have h3 := HD2.out h h2
              clear HD2 HD3 HR2
              go_wp2_with fail
              go_meet
              exact ⟨by first | rfl | rw [h3], rfl⟩
            · have h3 := HD3.out h
              subst h3
              clear HD2 HD3 HR2
              go_wp2_with fail
              go_meet
              exact ⟨rfl, rfl⟩
          case rest =>
            obtain ⟨rfl, rfl⟩ := hcut
            clear HD2 HD3
            by_cases h1 : c.toNat < d.toNat
            · have HE : Hid (A = -1) := hid_mk (by rw [HR2.out]; exact Pl.cmp_lt _ _ (UInt8.lt_iff_toNat_lt.2 h1))
              clear HR2
              go_wp2_with fail
              go_ret
              exact ⟨by rw [HE.out] <;> rfl, rfl⟩
            · by_cases h2 : d.toNat < c.toNat
              · have HE : Hid (A = 1) := hid_mk (by rw [HR2.out]; exact Pl.cmp_gt _ _ (UInt8.lt_iff_toNat_lt.2 h2))
                clear HR2
                go_wp2_with fail
                go_ret
                exact ⟨by rw [HE.out] <;> rfl, rfl⟩
              · have HE : Hid (A = Pl.cmp (X.drop (n - g)) (Y.drop (n - g))) := hid_mk (by
                  have : c = d := UInt8.toNat_inj.1 (by omega)
                  rw [HR2.out, this]; exact Pl.cmp_same _ _ _)
                clear HR2
                go_wp2_with fail
                go_roundg g
                case measure => omega
                case rel => exact ⟨by omega, by go_num, HE, rfl⟩
end Go.Proofs.Qxb6601124aDoor
