/-
  The walk of 'zzModelReadDecimal': the exponent.
-/
import Derived.Test.Qxb6600799aDoorFin
import Derived.Deep.CutBlock
namespace Go.Proofs.Qxb6600799aDoor
open Go.RowKit Go.Shelf
set_option linter.unusedVariables false

/-- Does the text open with one of two bytes? -/
def opens2 (l : List UInt8) (a b : UInt8) : Bool := l.head? == some a || l.head? == some b
theorem opens2_cons (c : UInt8) (t : List UInt8) (a b : UInt8) : opens2 (c :: t) a b = (c == a || c == b) := by
  unfold opens2; simp
theorem opens2_iff (l : List UInt8) (a b : UInt8) : opens2 l a b = true ↔ (l.head? = some a ∨ l.head? = some b) := by
  unfold opens2; simp
theorem satM_snoc (l : List UInt8) (c : UInt8) : Pl.satM (l ++ [c]) = if Pl.satM l ≤ Pl.cap then Pl.satM l * 10 + Pl.val c else Pl.satM l := by
  unfold Pl.satM; rw [List.foldl_append]; rfl

set_option maxRecDepth 100000 in
set_option maxHeartbeats 2000000 in
theorem exp_any (s : ByteArray) (ws fs i : Nat) (mb : Bool) (W F r : List UInt8) (A : Pl.Ans) (w : World) (hs : s.size ≤ 1048576) (hws : ws ≤ 1) (hw : ws + W.length ≤ s.size) (hf : fs + F.length ≤ s.size) (hW : (s.data.toList.drop ws).take W.length = W) (hF : (s.data.toList.drop fs).take F.length = F)
    (hcur : Cur s i r) (hA : A = Pl.expM mb W F r) (c0 : Code) (hc0 : nthO 11 Tryd.f8.body = c0) {x1 x2 x3 x4 x5 x13 x14 x15 x16 x17 x18 x19 x20 x21 x22 x23 x24 x25 x26 x27 x28 x29 x30 x31 x32 x33 x34 x35 x36 x37 x38 x39 x40 x41 x42 x43 x44 x45 x46 x47 x48 x49 x50 x51 x52 x53 x54 x55 x56 x57 x58 x59 x60 x61 x62 x63 x64 x65 x66 x67 x68 x69 x70 x71 x72 x73 x74 x75 x76 x77 x78 x79 x80 x81 x82 x83 x84 x85 x86 x87 x88 x89 x90 x91 x92 x93 x94 x95 x96 x97 x98 x99 x100 x101 x102 x103 x104 x105 x106 x107 x108 x109 x110 x111 x112 x113 x114 x115 x116 x117 x118 x119 x120 x121 x122 x123 x124 x125 x126 x127 x128 x129 x130 x131 x132 x133 x134 x135 x136 x137 x138 x139 x140 x141 x142 x143 x144 x145 x146 x147 x148 x149 x150 x151 x152 x153 x154 x155 x156 x157 x158 x159 x160 x161 x162 x163 x164 x165 x166 x167 x168 x169 x170 x171 x172 x173 x174 x175 x176 x177 x178 x179 x180 x181 x182 x183 x184 x185 x186 x187 x188 x189 x190 x191 x192 x193 x194 x195 x196 x197 x198 x199 x200 x201 x202 x203 x204 x205 x206 x207 x208 x209 x210 x211 x212 x213 x214 x215 x216 x217 x218 x219 x220 x221 : Value} :
    Code.wp Tryd.prog c0 (bodyPost Tryd.prog Tryd.f8 fun e w' => e = .returned (tupV A) ∧ Below w.heap.size w w') ⟨(.string s :: x1 :: x2 :: x3 :: x4 :: x5 :: .int .i64 s.size :: .int .i64 i :: .bool mb :: .int .i64 ws :: .int .i64 ((ws : Int) + (W.length : Int)) :: .int .i64 fs :: .int .i64 ((fs : Int) + (F.length : Int)) :: x13 :: x14 :: x15 :: x16 :: x17 :: x18 :: x19 :: x20 :: x21 :: x22 :: x23 :: x24 :: x25 :: x26 :: x27 :: x28 :: x29 :: x30 :: x31 :: x32 :: x33 :: x34 :: x35 :: x36 :: x37 :: x38 :: x39 :: x40 :: x41 :: x42 :: x43 :: x44 :: x45 :: x46 :: x47 :: x48 :: x49 :: x50 :: x51 :: x52 :: x53 :: x54 :: x55 :: x56 :: x57 :: x58 :: x59 :: x60 :: x61 :: x62 :: x63 :: x64 :: x65 :: x66 :: x67 :: x68 :: x69 :: x70 :: x71 :: x72 :: x73 :: x74 :: x75 :: x76 :: x77 :: x78 :: x79 :: x80 :: x81 :: x82 :: x83 :: x84 :: x85 :: x86 :: x87 :: x88 :: x89 :: x90 :: x91 :: x92 :: x93 :: x94 :: x95 :: x96 :: x97 :: x98 :: x99 :: x100 :: x101 :: x102 :: x103 :: x104 :: x105 :: x106 :: x107 :: x108 :: x109 :: x110 :: x111 :: x112 :: x113 :: x114 :: x115 :: x116 :: x117 :: x118 :: x119 :: x120 :: x121 :: x122 :: x123 :: x124 :: x125 :: x126 :: x127 :: x128 :: x129 :: x130 :: x131 :: x132 :: x133 :: x134 :: x135 :: x136 :: x137 :: x138 :: x139 :: x140 :: x141 :: x142 :: x143 :: x144 :: x145 :: x146 :: x147 :: x148 :: x149 :: x150 :: x151 :: x152 :: x153 :: x154 :: x155 :: x156 :: x157 :: x158 :: x159 :: x160 :: x161 :: x162 :: x163 :: x164 :: x165 :: x166 :: x167 :: x168 :: x169 :: x170 :: x171 :: x172 :: x173 :: x174 :: x175 :: x176 :: x177 :: x178 :: x179 :: x180 :: x181 :: x182 :: x183 :: x184 :: x185 :: x186 :: x187 :: x188 :: x189 :: x190 :: x191 :: x192 :: x193 :: x194 :: x195 :: x196 :: x197 :: x198 :: x199 :: x200 :: x201 :: x202 :: x203 :: x204 :: x205 :: x206 :: x207 :: x208 :: x209 :: x210 :: x211 :: x212 :: x213 :: x214 :: x215 :: x216 :: x217 :: x218 :: x219 :: x220 :: x221 :: []).toArray, []⟩ w := by
  have HA := hid_mk hA
  have HW := hid_mk hW
  have HF := hid_mk hF
  have hil := hcur.1
  clear hA hW hF
  simp only [Tryd.f8, nthO, nth] at hc0
  subst hc0
  go_upto_region 25 with fail
  go_cut [107] (fun b wc => b = .bool (opens2 r 101 69) ∧ w = wc)
  case first => as_aux_lemma =>
    clear HA HW HF
    cases r with
    | nil =>
      have hz := hcur.nil
      have HN : Hid (opens2 [] 101 69 = false) := hid_mk rfl
      subst hz
      clear hcur
      go_wp2_with fail
      go_meet
      exact ⟨by rw [HN.out], rfl⟩
    | cons c t =>
      have hlt := hcur.lt
      have hget : s[i] = c := hcur.get
      have HN : Hid (opens2 (c :: t) 101 69 = (((c.toNat : Int) == 101) || ((c.toNat : Int) == 69))) := hid_mk (by
        rw [opens2_cons, b8 c 101 101 rfl, b8 c 69 69 rfl])
      clear hcur
      cases b1 : ((c.toNat : Int) == 101) with
      | true =>
        rw [b1] at HN
        go_wp2_with fail
        go_meet
        exact ⟨by rw [HN.out]; rfl, rfl⟩
      | false =>
        rw [b1] at HN
        cases b2 : ((c.toNat : Int) == 69) with
        | true =>
          rw [b2] at HN
          go_wp2_with fail
          go_meet
          exact ⟨by rw [HN.out]; rfl, rfl⟩
        | false =>
          rw [b2] at HN
          go_wp2_with fail
          go_meet
          exact ⟨by rw [HN.out]; rfl, rfl⟩
  case rest =>
    obtain ⟨rfl, rfl⟩ := hcut
    go_upto_if 107 with fail
    go_cut [7, 13] (fun x y wc => ∃ (i6 : Nat) (ev : Int) (r3 : List UInt8), x = .int .i64 i6 ∧ y = .int .i64 ev ∧ Cur s i6 r3 ∧ -1048576 ≤ ev ∧ ev ≤ 1048576 ∧ Hid (A = if r3 ≠ [] then none else Pl.finM mb W F ev) ∧ w = wc)
    case first => as_aux_lemma =>
      clear HW HF
      cases hb : opens2 r 101 69 with
      | false =>
        have HB : Hid (A = if r ≠ [] then none else Pl.finM mb W F 0) := hid_mk (by
          rw [HA.out]; unfold Pl.expM; rw [if_neg]; rw [← opens2_iff, hb]; decide)
        clear HA hb
        go_wp2_with fail
        go_meet
        exact ⟨i, 0, r, rfl, rfl, hcur, by omega, by omega, HB, rfl⟩
      | true =>
        cases r with
        | nil => exact absurd hb (by decide)
        | cons c p0 =>
        have HB : Hid (A = if Pl.run (Pl.powM p0).2 = [] then none else if Pl.after (Pl.powM p0).2 ≠ [] then none else Pl.finM mb W F (Pl.expVal (Pl.powM p0).1 (Pl.run (Pl.powM p0).2))) := hid_mk (by
          rw [HA.out]; unfold Pl.expM; rw [if_pos ((opens2_iff _ _ _).1 hb)]; rfl)
        have hlt := hcur.lt
        have hcur1 := hcur.next
        clear HA hb hcur
        go_upto_region 28 with fail
        go_cut [124] (fun b wc => b = .bool (opens2 p0 43 45) ∧ w = wc)
        case first => as_aux_lemma =>
          clear HB
          cases p0 with
          | nil =>
            have hz := hcur1.nil
            have HN : Hid (opens2 [] 43 45 = false) := hid_mk rfl
            clear hcur1
            go_wp2_with fail
            go_meet
            exact ⟨by rw [HN.out], rfl⟩
          | cons c t =>
            have hlt1 := hcur1.lt
            have hget : s[i + 1] = c := hcur1.get
            have HN : Hid (opens2 (c :: t) 43 45 = (((c.toNat : Int) == 43) || ((c.toNat : Int) == 45))) := hid_mk (by
              rw [opens2_cons, b8 c 43 43 rfl, b8 c 45 45 rfl])
            clear hcur1
            cases b1 : ((c.toNat : Int) == 43) with
            | true =>
              rw [b1] at HN
              go_wp2_with fail
              go_meet
              exact ⟨by rw [HN.out]; rfl, rfl⟩
            | false =>
              rw [b1] at HN
              cases b2 : ((c.toNat : Int) == 45) with
              | true =>
                rw [b2] at HN
                go_wp2_with fail
                go_meet
                exact ⟨by rw [HN.out]; rfl, rfl⟩
              | false =>
                rw [b2] at HN
                go_wp2_with fail
                go_meet
                exact ⟨by rw [HN.out]; rfl, rfl⟩
        case rest =>
          obtain ⟨rfl, rfl⟩ := hcut
          go_upto_if 124 with fail
          go_cut [7, 14] (fun x y wc => ∃ i5 : Nat, x = .int .i64 i5 ∧ y = .bool (Pl.powM p0).1 ∧ Cur s i5 (Pl.powM p0).2 ∧ w = wc)
          case first => as_aux_lemma =>
            clear HB
            cases hb : opens2 p0 43 45 with
            | false =>
              have HP : Hid (Pl.powM p0 = (false, p0)) := hid_mk (by
                have h : ¬ (p0.head? = some 43 ∨ p0.head? = some 45) := by rw [← opens2_iff, hb]; decide
                unfold Pl.powM; rw [if_neg (fun e => h (Or.inl e)), if_neg (fun e => h (Or.inr e))])
              clear hb
              go_wp2_with fail
              go_meet
              exact ⟨i + 1, rfl, by rw [HP.out], by rw [HP.out]; exact hcur1, rfl⟩
            | true =>
              cases p0 with
              | nil => exact absurd hb (by decide)
              | cons c t =>
                have hlt1 := hcur1.lt
                have hget : s[i + 1] = c := hcur1.get
                have HC := hid_mk hcur1.next
                have HP : Hid (Pl.powM (c :: t) = (((c.toNat : Int) == 45), t)) := hid_mk (by
                  have h := (opens2_iff _ _ _).1 hb
                  unfold Pl.powM
                  rw [b8 c 45 45 rfl]
                  rcases h with h | h
                  · have : c = 43 := by simpa using h
                    subst this; rfl
                  · have : c = 45 := by simpa using h
                    subst this; rfl)
                clear hb hcur1
                go_wp2_with fail
                go_meet
                exact ⟨i + 1 + 1, by go_num, by rw [HP.out], by rw [HP.out]; exact HC.out, rfl⟩
          case rest =>
            obtain ⟨i5, rfl, rfl, hcur5, rfl⟩ := hcut
            clear hcur1
            generalize (Pl.powM p0).1 = en at *
            generalize (Pl.powM p0).2 = q at *
            have hil5 := hcur5.1
            have hrl : (Pl.run q).length ≤ q.length := (List.takeWhile_prefix _).length_le
            have hq5 := (hcur5.skip (Pl.run q).length hrl).1
            have HD : Hid (∀ x ∈ Pl.run q, Pl.isDig x = true) := hid_mk (Pl.run_all q)
            go_upto_block 4 with fail
            go_cut [7, 13] (fun x y wc => x = .int .i64 ((i5 : Int) + ((Pl.run q).length : Int)) ∧ y = .int .i64 (Pl.satM (Pl.run q)) ∧ w = wc)
            case first => as_aux_lemma =>
              clear HB
              go_wp2_with fail
              go_loopg [7, 13] (Pl.run q).length (fun gf x y wr => ∃ k : Nat, k + gf = (Pl.run q).length ∧ x = .int .i64 ((i5 + k : Nat) : Int) ∧ y = .int .i64 (Pl.satM ((Pl.run q).take k)) ∧ w = wr)
              case atStart => exact ⟨0, by omega, rfl, rfl, rfl⟩
              case round =>
                obtain ⟨k, hkg, rfl, rfl, rfl⟩ := hrel
                have hck := hcur5.skip k (by omega)
                have hdd := drop_dig q k (by omega)
                by_cases hlt2 : k < (Pl.run q).length
                · obtain ⟨d, u, hd, hdig⟩ := hdd.1 hlt2
                  have hrk : (Pl.run q)[k]? = some d := by
                    rw [← Pl.take_run q, List.getElem?_take_of_lt hlt2]
                    have := congrArg List.head? hd
                    rw [List.head?_drop] at this
                    exact this
                  have htk : (Pl.run q).take (k + 1) = (Pl.run q).take k ++ [d] := by rw [List.take_add_one, hrk]; rfl
                  have hsb := Pl.satM_bound ((Pl.run q).take k) (fun c hc => HD.out c (List.mem_of_mem_take hc))
                  have HS : Hid (Pl.satM ((Pl.run q).take (k + 1)) = if Pl.satM ((Pl.run q).take k) ≤ 1048576 then Pl.satM ((Pl.run q).take k) * 10 + ((d.toNat : Int) - 48) else Pl.satM ((Pl.run q).take k)) := hid_mk (by
                    rw [htk, satM_snoc]; rfl)
                  generalize Pl.satM ((Pl.run q).take k) = v at *
                  unfold Pl.cap at hsb
                  rw [hd] at hck
                  have l2 := hck.lt
                  have l3 : s[i5 + k] = d := hck.get
                  obtain ⟨g', rfl⟩ : ∃ g', gk = g' + 1 := ⟨gk - 1, by omega⟩
                  have hdr : 48 ≤ d.toNat ∧ d.toNat ≤ 57 := by unfold Pl.isDig at hdig; simpa using hdig
                  clear hck hdd hd hrk htk HD
                  by_cases hv : v ≤ 1048576
                  · have HV : Hid (Pl.satM ((Pl.run q).take (k + 1)) = v * 10 + ((d.toNat : Int) - 48)) := hid_mk (by rw [HS.out, if_pos hv])
                    clear HS
                    go_wp2_with (go_at_call 13; refine (dig_any _ _).mono ?_; rintro e w2 ⟨rfl, hw⟩; obtain rfl := hw.symm)
                    go_roundg g'
                    case measure => omega
                    case rel => exact ⟨k + 1, by omega, by go_num, by rw [HV.out], rfl⟩
                  · have HV : Hid (Pl.satM ((Pl.run q).take (k + 1)) = v) := hid_mk (by rw [HS.out, if_neg hv])
                    clear HS
                    go_wp2_with (go_at_call 13; refine (dig_any _ _).mono ?_; rintro e w2 ⟨rfl, hw⟩; obtain rfl := hw.symm)
                    go_roundg g'
                    case measure => omega
                    case rel => exact ⟨k + 1, by omega, by go_num, by rw [HV.out], rfl⟩
                · have hkl : k = (Pl.run q).length := by omega
                  have HK := hid_mk hkl
                  have hdd2 := hdd.2 (by omega)
                  have HT : Hid (Pl.satM ((Pl.run q).take k) = Pl.satM (Pl.run q)) := hid_mk (by rw [hkl, List.take_length])
                  clear hkl hkg hlt2
                  cases hrest : q.drop k with
                  | nil =>
                    rw [hrest] at hck
                    have l2 := hck.nil
                    clear hck hdd hdd2 hrest
                    go_wp2_with fail
                    go_meet
                    exact ⟨by rw [← HK.out] <;> go_num, by rw [HT.out], rfl⟩
                  | cons d u =>
                    rw [hrest] at hck hdd2
                    have hdig := hdd2 d rfl
                    have l2 := hck.lt
                    have l3 : s[i5 + k] = d := hck.get
                    clear hck hdd hdd2 hrest
                    go_wp2_with (go_at_call 13; refine (dig_any _ _).mono ?_; rintro e w2 ⟨rfl, hw⟩; obtain rfl := hw.symm)
                    go_meet
                    exact ⟨by rw [← HK.out] <;> go_num, by rw [HT.out], rfl⟩
            case rest =>
              obtain ⟨rfl, rfl, rfl⟩ := hcut
              have HC : Hid (Cur s (i5 + (Pl.run q).length) (Pl.after q)) := hid_mk (by rw [← Pl.drop_run]; exact hcur5.skip _ hrl)
              have hsb := Pl.satM_bound (Pl.run q) HD.out
              clear HD hcur5
              unfold Pl.expVal Pl.cap at HB
              unfold Pl.cap at hsb
              cases hrq : Pl.run q with
              | nil =>
                have HN : Hid (A = none) := hid_mk (by rw [HB.out, if_pos hrq])
                clear HB HC hrl hq5 hsb hrq
                go_wp2_with fail
                exact bodyPost_ret (v := tupV none) (by simp [results, Tryd.results8, go_sem, tupV]) rfl ⟨by rw [HN.out], Below.refl _ _⟩
              | cons d0 D0 =>
                have HE : Hid (A = if Pl.after q ≠ [] then none else Pl.finM mb W F (if en = true then - min (Pl.satM (d0 :: D0)) 1048576 else min (Pl.satM (d0 :: D0)) 1048576)) := hid_mk (by
                  rw [HB.out, hrq, if_neg (by simp)])
                rw [hrq] at HC hq5 hsb
                clear HB hrl hrq
                have hln : (d0 :: D0).length = D0.length + 1 := rfl
                generalize Pl.satM (d0 :: D0) = X at *
                rw [hln] at HC hq5 ⊢
                clear hln
                by_cases hX : X ≤ 1048576
                · have hmin : min X 1048576 = X := by omega
                  rw [hmin] at HE
                  clear hmin
                  cases en with
                  | true =>
                    go_wp2_with fail
                    go_meet
                    exact ⟨i5 + (D0.length + 1), -X, Pl.after q, by go_num, rfl, HC.out, by omega, by omega, HE, rfl⟩
                  | false =>
                    go_wp2_with fail
                    go_meet
                    exact ⟨i5 + (D0.length + 1), X, Pl.after q, by go_num, rfl, HC.out, by omega, by omega, HE, rfl⟩
                · have hmin : min X 1048576 = 1048576 := by omega
                  rw [hmin] at HE
                  clear hmin
                  cases en with
                  | true =>
                    go_wp2_with fail
                    go_meet
                    exact ⟨i5 + (D0.length + 1), -1048576, Pl.after q, by go_num, rfl, HC.out, by omega, by omega, HE, rfl⟩
                  | false =>
                    go_wp2_with fail
                    go_meet
                    exact ⟨i5 + (D0.length + 1), 1048576, Pl.after q, by go_num, rfl, HC.out, by omega, by omega, HE, rfl⟩
    case rest =>
      obtain ⟨i6, ev, r3, rfl, rfl, hcur3, hev1, hev2, HB, rfl⟩ := hcut
      clear HA hcur
      cases r3 with
      | nil =>
        have hz := hcur3.nil
        subst hz
        have HC : Hid (A = Pl.finM mb W F ev) := hid_mk (by rw [HB.out, if_neg (by simp)])
        clear HB hcur3
        go_upto_region 44 with fail
        go_cut [16] (fun x wc => (∃ tot : Int, x = .int .i64 tot ∧ tot = (W.length : Int) + (F.length : Int)) ∧ w = wc)
        case first => as_aux_lemma =>
          clear HC HW HF
          go_wp2_with fail
          go_meet
          exact ⟨⟨_, rfl, by omega⟩, rfl⟩
        case rest =>
          obtain ⟨⟨tot, rfl, htot⟩, rfl⟩ := hcut
          rename_i hK
          refine hK _ _ (fin_any s ws fs mb W F ev A w hs hws hev1 hev2 hw hf HW.out HF.out HC.out tot htot _ ?_)
          kernel_rfl
      | cons c t =>
        have hlt := hcur3.lt
        have HC : Hid (A = none) := hid_mk (by rw [HB.out, if_pos (by simp)])
        have hne : ((i6 : Int) == (s.size : Int)) = false := by rw [beq_eq_false_iff_ne]; omega
        clear HB hcur3
        go_wp2_with fail
        exact bodyPost_ret (v := tupV none) (by simp [results, Tryd.results8, go_sem, tupV]) rfl ⟨by rw [HC.out], Below.refl _ _⟩
end Go.Proofs.Qxb6600799aDoor
