/-
  The shelf's contracts at this dump, in plain words, as the kit's tools lay them.
-/
import Derived.Shelf.Strings.Trim
import Derived.Shelf.Strings.SlTrimAscii
import Derived.Shelf.Small.Utf8
import Derived.Shelf.Small.Strs
import Derived.Shelf.Strconv.Itoa0
import Derived.Shelf.Strconv.Itoa1
import Derived.Shelf.LaysM
import Derived.Shelf.Strconv.Itoa2
import Derived.Shelf.Strconv.Itoa3
import Derived.Shelf.Strings.Search1
import Derived.Shelf.Strings.Search2
import Derived.Shelf.Strings.Cut
import Derived.Shelf.Strings.Shaped
import Derived.Shelf.Unicode.Decode
import Derived.Shelf.Strings.Runes
import Derived.Shelf.Strings.AsciiSet
import Derived.Shelf.Unicode.DecodeSlow
import Derived.Shelf.Unicode.DecodeAny
import Derived.Test.Qxb6601124aDoorProg
namespace Go.Proofs
open Go.Shelf
def Tryd.lays161_ren : Go.Shelf.Ren := ⟨fun | 161 => 45 | 231 => 51 | 227 => 52 | 233 => 53 | 235 => 54 | 228 => 60 | 197 => 61 | 151 => 62 | 260 => 71 | 152 => 72 | 137 => 84 | 119 => 85 | 224 => 75 | 225 => 74 | 217 => 73 | 266 => 86 | n => n, fun | 9 => 9 | 4 => 4 | 3 => 3 | 5 => 5 | 117 => 86 | 116 => 85 | 0 => 0 | 124 => 89 | 105 => 92 | 21 => 21 | 119 => 115 | 46 => 104 | 139 => 118 | 138 => 117 | n => n, fun | 3 => 3 | 4 => 4 | n => n⟩
theorem Tryd.lays161 : Go.Proofs.Lays.n161 Tryd.prog Tryd.lays161_ren := {
  mixed := by kernel_rfl
  f119 := Tryd.func85.trans (congrArg some (by kernel_rfl))
  f137 := Tryd.func84.trans (congrArg some (by kernel_rfl))
  f151 := Tryd.func62.trans (congrArg some (by kernel_rfl))
  f152 := Tryd.func72.trans (congrArg some (by kernel_rfl))
  f161 := Tryd.func45.trans (congrArg some (by kernel_rfl))
  f197 := Tryd.func61.trans (congrArg some (by kernel_rfl))
  f217 := Tryd.func73.trans (congrArg some (by kernel_rfl))
  f224 := Tryd.func75.trans (congrArg some (by kernel_rfl))
  f225 := Tryd.func74.trans (congrArg some (by kernel_rfl))
  f227 := Tryd.func52.trans (congrArg some (by kernel_rfl))
  f228 := Tryd.func60.trans (congrArg some (by kernel_rfl))
  f231 := Tryd.func51.trans (congrArg some (by kernel_rfl))
  f233 := Tryd.func53.trans (congrArg some (by kernel_rfl))
  f235 := Tryd.func54.trans (congrArg some (by kernel_rfl))
  f260 := Tryd.func71.trans (congrArg some (by kernel_rfl))
  f266 := Tryd.func86.trans (congrArg some (by kernel_rfl))
  t0 := Tryd.underlying0
  a0 := Tryd.isAgg0
  z0 := Tryd.sizeOf0
  v0 := Tryd.zeroValue0
  t3 := Tryd.underlying3
  a3 := Tryd.isAgg3
  z3 := Tryd.sizeOf3
  v3 := Tryd.zeroValue3
  t4 := Tryd.underlying4
  a4 := Tryd.isAgg4
  z4 := Tryd.sizeOf4
  v4 := Tryd.zeroValue4
  t5 := Tryd.underlying5
  a5 := Tryd.isAgg5
  z5 := Tryd.sizeOf5
  v5 := Tryd.zeroValue5
  t9 := Tryd.underlying9
  a9 := Tryd.isAgg9
  z9 := Tryd.sizeOf9
  v9 := Tryd.zeroValue9
  t21 := Tryd.underlying21
  a21 := Tryd.isAgg21
  z21 := Tryd.sizeOf21
  v21 := Tryd.zeroValue21
  t46 := Tryd.underlying104
  a46 := Tryd.isAgg104
  z46 := Tryd.sizeOf104
  v46 := Tryd.zeroValue104
  t105 := Tryd.underlying92
  a105 := Tryd.isAgg92
  z105 := Tryd.sizeOf92
  v105 := Tryd.zeroValue92
  t116 := Tryd.underlying85
  a116 := Tryd.isAgg85
  z116 := Tryd.sizeOf85
  t117 := Tryd.underlying86
  a117 := Tryd.isAgg86
  z117 := Tryd.sizeOf86
  v117 := Tryd.zeroValue86
  t119 := Tryd.underlying115
  a119 := Tryd.isAgg115
  z119 := Tryd.sizeOf115
  t124 := Tryd.underlying89
  a124 := Tryd.isAgg89
  z124 := Tryd.sizeOf89
  v124 := Tryd.zeroValue89
  t138 := Tryd.underlying117
  a138 := Tryd.isAgg117
  z138 := Tryd.sizeOf117
  v138 := Tryd.zeroValue117
  t139 := Tryd.underlying118
  a139 := Tryd.isAgg118
  z139 := Tryd.sizeOf118
  v139 := Tryd.zeroValue118
  g3 := by kernel_rfl
  g4 := by kernel_rfl }
open Go.RowKit in
theorem Tryd.strings_TrimLeft_one (s : ByteArray) (c : UInt8) (hc : c.toNat < 128) (w : World) :
    Calls Tryd.prog 45 #[.string s, .string ⟨#[c]⟩] w fun e w' => e = .returned (.string ⟨(Lib.trimLeftB s.data.toList c).toArray⟩) ∧ w' = w := Any.strings_TrimLeft_one Tryd.lays161 s c hc w
def Tryd.lays106_ren : Go.Shelf.Ren := ⟨fun | 106 => 46 | 213 => 55 | 265 => 63 | n => n, fun | 9 => 9 | 3 => 3 | n => n, fun | n => n⟩
theorem Tryd.lays106 : Go.Proofs.Lays.n106 Tryd.prog Tryd.lays106_ren := {
  mixed := by kernel_rfl
  f106 := Tryd.func46.trans (congrArg some (by kernel_rfl))
  f213 := Tryd.func55.trans (congrArg some (by kernel_rfl))
  f265 := Tryd.func63.trans (congrArg some (by kernel_rfl))
  t3 := Tryd.underlying3
  a3 := Tryd.isAgg3
  z3 := Tryd.sizeOf3
  v3 := Tryd.zeroValue3
  t9 := Tryd.underlying9
  a9 := Tryd.isAgg9
  z9 := Tryd.sizeOf9
  v9 := Tryd.zeroValue9 }
open Go.RowKit in
theorem Tryd.strings_Compare (a b : ByteArray) (w : World) :
    Calls Tryd.prog 46 #[.string a, .string b] w fun e w' => e = .returned (.int .i64 (Lib.compareBytes a.data.toList b.data.toList)) ∧ w' = w := Any.strings_Compare Tryd.lays106 a b w
open Go.RowKit in
theorem Tryd.strings_TrimLeft_digits (s : ByteArray) (w : World) :
    Calls Tryd.prog 45 #[.string s, .string ⟨#[48, 49, 50, 51, 52, 53, 54, 55, 56, 57]⟩] w fun e w' => e = .returned (.string ⟨(Lib.trimLeftS s.data.toList [48, 49, 50, 51, 52, 53, 54, 55, 56, 57]).toArray⟩) ∧ Below w.heap.size w w' :=
  Any.strings_TrimLeft_laid Tryd.lays161 (by kernel_rfl) s ⟨#[48, 49, 50, 51, 52, 53, 54, 55, 56, 57]⟩ w (by decide) (ascii_of_all (by decide))
end Go.Proofs
