/-
  The walk of 'zzModelReadDecimal': the fraction.
-/
import Derived.Test.Qxb6600799aDoorExp
namespace Go.Proofs.Qxb6600799aDoor
open Go.RowKit Go.Shelf
set_option linter.unusedVariables false

set_option maxRecDepth 100000 in
set_option maxHeartbeats 2000000 in
theorem frac_any (s : ByteArray) (ws : Nat) (mb : Bool) (W r : List UInt8) (A : Pl.Ans) (w : World) (hs : s.size ≤ 1048576) (hws : ws ≤ 1) (hw : ws + W.length ≤ s.size) (hW : (s.data.toList.drop ws).take W.length = W)
    (hcur : Cur s (ws + W.length) r) (hA : A = Pl.fracM mb W r) (c0 : Code) (hc0 : nthO 8 Tryd.f8.body = c0) {x1 x2 x3 x4 x5 x10 x11 x12 x13 x14 x15 x16 x17 x18 x19 x20 x21 x22 x23 x24 x25 x26 x27 x28 x29 x30 x31 x32 x33 x34 x35 x36 x37 x38 x39 x40 x41 x42 x43 x44 x45 x46 x47 x48 x49 x50 x51 x52 x53 x54 x55 x56 x57 x58 x59 x60 x61 x62 x63 x64 x65 x66 x67 x68 x69 x70 x71 x72 x73 x74 x75 x76 x77 x78 x79 x80 x81 x82 x83 x84 x85 x86 x87 x88 x89 x90 x91 x92 x93 x94 x95 x96 x97 x98 x99 x100 x101 x102 x103 x104 x105 x106 x107 x108 x109 x110 x111 x112 x113 x114 x115 x116 x117 x118 x119 x120 x121 x122 x123 x124 x125 x126 x127 x128 x129 x130 x131 x132 x133 x134 x135 x136 x137 x138 x139 x140 x141 x142 x143 x144 x145 x146 x147 x148 x149 x150 x151 x152 x153 x154 x155 x156 x157 x158 x159 x160 x161 x162 x163 x164 x165 x166 x167 x168 x169 x170 x171 x172 x173 x174 x175 x176 x177 x178 x179 x180 x181 x182 x183 x184 x185 x186 x187 x188 x189 x190 x191 x192 x193 x194 x195 x196 x197 x198 x199 x200 x201 x202 x203 x204 x205 x206 x207 x208 x209 x210 x211 x212 x213 x214 x215 x216 x217 x218 x219 x220 x221 : Value} :
    Code.wp Tryd.prog c0 (bodyPost Tryd.prog Tryd.f8 fun e w' => e = .returned (tupV A) ∧ Below w.heap.size w w') ⟨(.string s :: x1 :: x2 :: x3 :: x4 :: x5 :: .int .i64 s.size :: .int .i64 ((ws : Int) + (W.length : Int)) :: .bool mb :: .int .i64 ws :: x10 :: x11 :: x12 :: x13 :: x14 :: x15 :: x16 :: x17 :: x18 :: x19 :: x20 :: x21 :: x22 :: x23 :: x24 :: x25 :: x26 :: x27 :: x28 :: x29 :: x30 :: x31 :: x32 :: x33 :: x34 :: x35 :: x36 :: x37 :: x38 :: x39 :: x40 :: x41 :: x42 :: x43 :: x44 :: x45 :: x46 :: x47 :: x48 :: x49 :: x50 :: x51 :: x52 :: x53 :: x54 :: x55 :: x56 :: x57 :: x58 :: x59 :: x60 :: x61 :: x62 :: x63 :: x64 :: x65 :: x66 :: x67 :: x68 :: x69 :: x70 :: x71 :: x72 :: x73 :: x74 :: x75 :: x76 :: x77 :: x78 :: x79 :: x80 :: x81 :: x82 :: x83 :: x84 :: x85 :: x86 :: x87 :: x88 :: x89 :: x90 :: x91 :: x92 :: x93 :: x94 :: x95 :: x96 :: x97 :: x98 :: x99 :: x100 :: x101 :: x102 :: x103 :: x104 :: x105 :: x106 :: x107 :: x108 :: x109 :: x110 :: x111 :: x112 :: x113 :: x114 :: x115 :: x116 :: x117 :: x118 :: x119 :: x120 :: x121 :: x122 :: x123 :: x124 :: x125 :: x126 :: x127 :: x128 :: x129 :: x130 :: x131 :: x132 :: x133 :: x134 :: x135 :: x136 :: x137 :: x138 :: x139 :: x140 :: x141 :: x142 :: x143 :: x144 :: x145 :: x146 :: x147 :: x148 :: x149 :: x150 :: x151 :: x152 :: x153 :: x154 :: x155 :: x156 :: x157 :: x158 :: x159 :: x160 :: x161 :: x162 :: x163 :: x164 :: x165 :: x166 :: x167 :: x168 :: x169 :: x170 :: x171 :: x172 :: x173 :: x174 :: x175 :: x176 :: x177 :: x178 :: x179 :: x180 :: x181 :: x182 :: x183 :: x184 :: x185 :: x186 :: x187 :: x188 :: x189 :: x190 :: x191 :: x192 :: x193 :: x194 :: x195 :: x196 :: x197 :: x198 :: x199 :: x200 :: x201 :: x202 :: x203 :: x204 :: x205 :: x206 :: x207 :: x208 :: x209 :: x210 :: x211 :: x212 :: x213 :: x214 :: x215 :: x216 :: x217 :: x218 :: x219 :: x220 :: x221 :: []).toArray, []⟩ w := by
  have HA := hid_mk hA
  have HW := hid_mk hW
  have hwl : W.length ≤ 1048576 := by omega
  clear hA hW
  simp only [Tryd.f8, nthO, nth] at hc0
  subst hc0
  go_upto_region 16 with fail
  go_cut [74] (fun b wc => b = .bool (r.head? == some 46) ∧ w = wc)
  case first => as_aux_lemma =>
    clear HA HW
    cases r with
    | nil =>
      have hz := hcur.nil
      have HN : Hid (((([] : List UInt8).head?) == some 46) = false) := hid_mk rfl
      clear hcur
      go_wp2_with fail
      go_meet
      exact ⟨by rw [HN.out], rfl⟩
    | cons c t =>
      have hlt := hcur.lt
      have hget : s[ws + W.length] = c := hcur.get
      have HN : Hid (((c :: t).head? == some 46) = ((c.toNat : Int) == 46)) := hid_mk (by rw [b8 c 46 46 rfl]; rfl)
      clear hcur
      go_wp2_with fail
      go_meet
      exact ⟨by rw [HN.out], rfl⟩
  case rest =>
    obtain ⟨rfl, rfl⟩ := hcut
    go_upto_if 74 with fail
    go_cut [7, 11, 12] (fun x y z wc => ∃ (i fs : Nat) (F r2 : List UInt8), x = .int .i64 i ∧ y = .int .i64 fs ∧ z = .int .i64 ((fs : Int) + (F.length : Int)) ∧ Cur s i r2 ∧ fs + F.length ≤ s.size ∧ Hid ((s.data.toList.drop fs).take F.length = F) ∧ Hid (A = Pl.expM mb W F r2) ∧ w = wc)
    case first => as_aux_lemma =>
      clear HW
      cases hb : (r.head? == some 46) with
      | false =>
        have HB : Hid (A = Pl.expM mb W [] r) := hid_mk (by
          rw [HA.out]; unfold Pl.fracM; rw [if_neg]; simpa using hb)
        clear HA hb
        go_wp2_with fail
        go_meet
        exact ⟨ws + W.length, ws + W.length, [], r, by go_num, by go_num, by simp, hcur, by simpa using hw, hid_mk rfl, HB, rfl⟩
      | true =>
        cases r with
        | nil => exact absurd hb (by decide)
        | cons c q =>
        have HB : Hid (A = if Pl.run q = [] then none else Pl.expM mb W (Pl.run q) (Pl.after q)) := hid_mk (by
          rw [HA.out]; unfold Pl.fracM; rw [if_pos (by simpa using hb)]; rfl)
        have hlt := hcur.lt
        have hcur3 := hcur.next
        clear HA hb hcur
        obtain ⟨i3, hi3⟩ : ∃ i3, i3 = ws + W.length + 1 := ⟨_, rfl⟩
        rw [← hi3] at hcur3
        have hi4 : (ws : Int) + (W.length : Int) + 1 = (i3 : Int) := by omega
        have hil3 := hcur3.1
        have hrl : (Pl.run q).length ≤ q.length := (List.takeWhile_prefix _).length_le
        have hq3 := (hcur3.skip (Pl.run q).length hrl).1
        clear hi3 hlt
        go_upto_block 2 with fail
        go_cut [7] (fun x wc => x = .int .i64 ((i3 : Int) + ((Pl.run q).length : Int)) ∧ w = wc)
        case first =>
          clear HB
          go_wp2_with fail
          go_loopg [7] (Pl.run q).length (fun gf x wr => ∃ k : Nat, k + gf = (Pl.run q).length ∧ x = .int .i64 ((i3 + k : Nat) : Int) ∧ w = wr)
          case atStart => exact ⟨0, by omega, rfl, rfl⟩
          case round =>
            obtain ⟨k, hkg, rfl, rfl⟩ := hrel
            have hck := hcur3.skip k (by omega)
            have hdd := drop_dig q k (by omega)
            by_cases hlt2 : k < (Pl.run q).length
            · obtain ⟨d, u, hd, hdig⟩ := hdd.1 hlt2
              rw [hd] at hck
              have l2 := hck.lt
              have l3 : s[i3 + k] = d := hck.get
              obtain ⟨g', rfl⟩ : ∃ g', gk = g' + 1 := ⟨gk - 1, by omega⟩
              clear hck hdd hd
              go_wp2_with (go_at_call 13; refine (dig_any _ _).mono ?_; rintro e w2 ⟨rfl, hw⟩; obtain rfl := hw.symm)
              go_roundg g'
              case measure => omega
              case rel => exact ⟨k + 1, by omega, by go_num, rfl⟩
            · have HK : Hid (k = (Pl.run q).length) := hid_mk (by omega)
              have hdd2 := hdd.2 (by omega)
              clear hkg hlt2
              cases hrest : q.drop k with
              | nil =>
                rw [hrest] at hck
                have l2 := hck.nil
                clear hck hdd hdd2 hrest
                go_wp2_with fail
                go_meet
                exact ⟨by rw [← HK.out] <;> go_num, rfl⟩
              | cons d u =>
                rw [hrest] at hck hdd2
                have hdig := hdd2 d rfl
                have l2 := hck.lt
                have l3 : s[i3 + k] = d := hck.get
                clear hck hdd hdd2 hrest
                go_wp2_with (go_at_call 13; refine (dig_any _ _).mono ?_; rintro e w2 ⟨rfl, hw⟩; obtain rfl := hw.symm)
                go_meet
                exact ⟨by rw [← HK.out] <;> go_num, rfl⟩
        case rest =>
          obtain ⟨rfl, rfl⟩ := hcut
          have HC : Hid (Cur s (i3 + (Pl.run q).length) (Pl.after q)) := hid_mk (by rw [← Pl.drop_run]; exact hcur3.skip _ hrl)
          have HT : Hid ((s.data.toList.drop i3).take (Pl.run q).length = Pl.run q) := hid_mk (by rw [hcur3.2]; exact Pl.take_run q)
          clear hcur3 hrl
          cases hrq : Pl.run q with
          | nil =>
            have HN : Hid (A = none) := hid_mk (by rw [HB.out, if_pos hrq])
            clear HB HC HT hq3 hrq
            go_wp2_with fail
            exact bodyPost_ret (v := tupV none) (by simp [results, Tryd.results8, go_sem, tupV]) rfl ⟨by rw [HN.out], Below.refl _ _⟩
          | cons d0 D0 =>
            have HE : Hid (A = Pl.expM mb W (d0 :: D0) (Pl.after q)) := hid_mk (by
              rw [HB.out, hrq, if_neg (by simp)])
            rw [hrq] at HC hq3 HT
            clear HB hrq
            have hln : (d0 :: D0).length = D0.length + 1 := rfl
            rw [hln] at HC hq3 ⊢
            go_wp2_with fail
            go_meet
            exact ⟨i3 + (D0.length + 1), i3, d0 :: D0, Pl.after q, by go_num, rfl, by rw [hln] <;> go_num, HC.out, by rw [hln]; exact hq3, HT, HE, rfl⟩
    case rest =>
      obtain ⟨i, fs, F, r2, rfl, rfl, rfl, hcur2, hfl, HF, HB, rfl⟩ := hcut
      rename ∀ (a : Act) (w : World), Code.wp _ _ _ a w → _ => hK
      refine hK _ _ (exp_any s ws fs i mb W F r2 A w hs hws hw hfl HW.out HF.out hcur2 HB.out _ ?_)
      kernel_rfl
end Go.Proofs.Qxb6600799aDoor
