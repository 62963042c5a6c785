/-
  The walk of 'zzModelReadDecimal'.
-/
import Derived.Test.Qxb6600799aDoorFrac
namespace Go.Proofs.Qxb6600799aDoor
open Go.RowKit Go.Shelf
set_option linter.unusedVariables false

set_option maxRecDepth 100000 in
set_option maxHeartbeats 2000000 in
theorem model_any (s : ByteArray) (w : World) (hs : s.size ≤ 1048576) :
    Calls Tryd.prog 8 #[.string s] w fun e w' => e = .returned (tupV (Pl.modelF s.data.toList)) ∧ Below w.heap.size w w' := by
  obtain ⟨A, hA⟩ : ∃ A, Pl.modelF s.data.toList = A := ⟨_, rfl⟩
  rw [hA]
  unfold Pl.modelF at hA
  have HA := hid_mk hA
  clear hA
  go_enter Tryd.func8, Tryd.ntmps8
  go_upto_region 4 with fail
  go_cut [32] (fun b wc => b = .bool (negB s) ∧ w = wc)
  case first => as_aux_lemma =>
    have hcur := Cur.start s
    cases hl : s.data.toList with
    | nil =>
      rw [hl] at hcur
      have HN : Hid (negB s = false) := hid_mk (by unfold negB; rw [hl]; rfl)
      have hz : ¬ 0 < s.size := by have := hcur.nil; omega
      clear hcur hl
      go_wp2_with fail
      go_meet
      exact ⟨by rw [HN.out], rfl⟩
    | cons c t =>
      rw [hl] at hcur
      have hlt := hcur.lt
      have HN : Hid (negB s = ((s[0].toNat : Int) == 45)) := hid_mk (by unfold negB; rw [hl, b8 s[0] 45 45 rfl, hcur.get]; rfl)
      clear hcur hl
      go_wp2_with fail
      go_meet
      exact ⟨by rw [HN.out], rfl⟩
  case rest =>
    obtain ⟨rfl, rfl⟩ := hcut
    obtain ⟨hs1, hs2⟩ := sign_cur s
    have HA2 : Hid ((if Pl.run (Pl.rest0 s.data.toList) = [] then none else Pl.fracM (negB s) (Pl.whole (Pl.rest0 s.data.toList)) ((Pl.rest0 s.data.toList).drop (Pl.whole (Pl.rest0 s.data.toList)).length)) = A) := HA
    clear HA
    generalize negB s = mb at *
    generalize Pl.rest0 s.data.toList = r0 at *
    have HS1 := hid_mk hs1
    have HS2 := hid_mk hs2
    clear hs1 hs2
    go_upto_if 32 with fail
    go_cut [7, 8] (fun i m wc => ∃ ws : Nat, i = .int .i64 ws ∧ m = .bool mb ∧ ws ≤ 1 ∧ Cur s ws r0 ∧ w = wc)
    case first => as_aux_lemma =>
      cases mb with
      | true =>
        go_wp2_with fail
        go_meet
        exact ⟨1, rfl, rfl, by omega, (by have h := HS1.out; first | exact h rfl | exact h trivial), rfl⟩
      | false =>
        go_wp2_with fail
        go_meet
        exact ⟨0, rfl, rfl, by omega, (by have h := HS2.out; first | exact h rfl | exact h trivial), rfl⟩
    case rest =>
      obtain ⟨ws, rfl, rfl, hws, hcur, rfl⟩ := hcut
      clear HS1 HS2
      cases r0 with
      | nil =>
        have hz := hcur.nil
        have hz2 : (s.size : Int) ≤ (ws : Int) := by omega
        have HF : Hid (A = none) := hid_mk (by rw [← HA2.out]; rfl)
        clear HA2 hcur hz
        go_wp2_with fail
        exact bodyPost_ret (v := tupV none) (by simp [results, Tryd.results8, go_sem, tupV]) rfl ⟨by rw [HF.out], Below.refl _ _⟩
      | cons c t =>
        have hlt := hcur.lt
        have hget : s[ws] = c := hcur.get
        cases hdc : Pl.isDig c with
        | false =>
          have HF : Hid (A = none) := hid_mk (by rw [← HA2.out, if_pos]; unfold Pl.run; rw [List.takeWhile_cons, hdc]; rfl)
          clear HA2 hcur
          go_wp2_with (go_at_call 13; refine (dig_any _ _).mono ?_; rintro e w2 ⟨rfl, hw⟩; obtain rfl := hw.symm)
          exact bodyPost_ret (v := tupV none) (by simp [results, Tryd.results8, go_sem, tupV]) rfl ⟨by rw [HF.out], Below.refl _ _⟩
        | true =>
          have HB : Hid (A = Pl.fracM mb (Pl.whole (c :: t)) ((c :: t).drop (Pl.whole (c :: t)).length)) := hid_mk (by
            rw [← HA2.out, if_neg]; rw [Pl.run_cons _ _ hdc]; simp)
          clear HA2
          go_upto_region 10 with (go_at_call 13; refine (dig_any _ _).mono ?_; rintro e w2 ⟨rfl, hw⟩; obtain rfl := hw.symm)
          go_cut [49] (fun b wc => b = .bool ((c.toNat : Int) == 48) ∧ w = wc)
          case first => as_aux_lemma =>
            clear HB hcur
            go_wp2_with fail
            go_meet
            exact ⟨rfl, rfl⟩
          case rest =>
            obtain ⟨rfl, rfl⟩ := hcut
            have hwl : (Pl.whole (c :: t)).length ≤ (c :: t).length := whole_len _
            have htake : (c :: t).take (Pl.whole (c :: t)).length = Pl.whole (c :: t) := whole_take _ (by simpa using hdc)
            have hcur1 := hcur.skip _ hwl
            have HT := hid_mk htake
            have HW1 : Hid (c = 48 → (Pl.whole (c :: t)).length = 1) := hid_mk (fun h => by unfold Pl.whole; rw [h]; rfl)
            have HW2 : Hid (c ≠ 48 → (Pl.whole (c :: t)).length = (Pl.run (c :: t)).length) := hid_mk (fun h => by unfold Pl.whole; rw [if_neg (by simpa using h)])
            clear htake
            obtain ⟨W, hW⟩ : ∃ W, Pl.whole (c :: t) = W := ⟨_, rfl⟩
            rw [hW] at HB hwl hcur1 HT HW1 HW2
            clear hW
            obtain ⟨r1, hr1⟩ : ∃ r1, (c :: t).drop W.length = r1 := ⟨_, rfl⟩
            rw [hr1] at HB hcur1
            clear hr1
            have zW : W.length ≤ s.size := by have := hcur1.1; omega
            have HT2 : Hid ((s.data.toList.drop ws).take W.length = W) := hid_mk (by rw [hcur.2]; exact HT.out)
            clear HT
            go_upto_if 49 with fail
            go_cut [7] (fun i wc => i = .int .i64 ((ws : Int) + (W.length : Int)) ∧ w = wc)
            case first => as_aux_lemma =>
              clear HT2 HB hcur1
              by_cases hz : c = 48
              · have b1 : ((c.toNat : Int) == 48) = true := by rw [hz]; rfl
                have HL : Hid (W.length = 1) := hid_mk (HW1.out hz)
                rw [b1]
                clear hz HW1 HW2 b1 hget hdc
                go_wp2_with fail
                go_meet
                exact ⟨by rw [HL.out] <;> go_num, rfl⟩
              · have b1 : ((c.toNat : Int) == 48) = false := by rw [b8 c 48 48 rfl]; simpa using hz
                have HL : Hid (W.length = (Pl.run (c :: t)).length) := hid_mk (HW2.out hz)
                rw [b1]
                clear hz HW1 HW2 b1 hget hdc
                have hrl : (Pl.run (c :: t)).length ≤ (c :: t).length := (List.takeWhile_prefix _).length_le
                go_wp2_with fail
                go_loopg [7] (Pl.run (c :: t)).length (fun gf i wr => ∃ k : Nat, k + gf = (Pl.run (c :: t)).length ∧ i = .int .i64 ((ws + k : Nat) : Int) ∧ w = wr)
                case atStart => exact ⟨0, by omega, rfl, rfl⟩
                case round =>
                  obtain ⟨k, hkg, rfl, rfl⟩ := hrel
                  have hck := hcur.skip k (by omega)
                  have hdd := drop_dig (c :: t) k (by omega)
                  by_cases hlt2 : k < (Pl.run (c :: t)).length
                  · obtain ⟨d, u, hd, hdig⟩ := hdd.1 hlt2
                    rw [hd] at hck
                    have l2 := hck.lt
                    have l3 : s[ws + k] = d := hck.get
                    obtain ⟨g', rfl⟩ : ∃ g', gk = g' + 1 := ⟨gk - 1, by omega⟩
                    clear hck hdd hd
                    go_wp2_with (go_at_call 13; refine (dig_any _ _).mono ?_; rintro e w2 ⟨rfl, hw⟩; obtain rfl := hw.symm)
                    go_roundg g'
                    case measure => omega
                    case rel => exact ⟨k + 1, by omega, by go_num, rfl⟩
                  · have HK : Hid (k = (Pl.run (c :: t)).length) := hid_mk (by omega)
                    have hdd2 := hdd.2 (by omega)
                    clear hkg hlt2
                    cases hrest : (c :: t).drop k with
                    | nil =>
                      rw [hrest] at hck
                      have l2 := hck.nil
                      clear hck hdd hdd2 hrest
                      go_wp2_with fail
                      go_meet
                      exact ⟨by rw [HL.out, ← HK.out] <;> go_num, rfl⟩
                    | cons d u =>
                      rw [hrest] at hck hdd2
                      have hdig := hdd2 d rfl
                      have l2 := hck.lt
                      have l3 : s[ws + k] = d := hck.get
                      clear hck hdd hdd2 hrest
                      go_wp2_with (go_at_call 13; refine (dig_any _ _).mono ?_; rintro e w2 ⟨rfl, hw⟩; obtain rfl := hw.symm)
                      go_meet
                      exact ⟨by rw [HL.out, ← HK.out] <;> go_num, rfl⟩
            case rest =>
              obtain ⟨rfl, rfl⟩ := hcut
              rename ∀ (a : Act) (w : World), Code.wp _ _ _ a w → _ => hK
              refine hK _ _ (frac_any s ws mb W r1 A w hs hws hcur1.1 HT2.out hcur1 HB.out _ ?_)
              kernel_rfl
end Go.Proofs.Qxb6600799aDoor
