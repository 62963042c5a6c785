/-
  The shelf's contracts at this dump, in plain words, as the kit's tools lay them.
-/
import Derived.Shelf.Strings.Trim
import Derived.Shelf.Small.Utf8
import Derived.Shelf.Small.Strs
import Derived.Shelf.Strings.Search1
import Derived.Shelf.Strings.Prefix
import Derived.Shelf.Strings.Runes
import Derived.Shelf.Strings.AsciiSet
import Derived.Shelf.Unicode.DecodeSlow
import Derived.Shelf.Unicode.DecodeAny
import Derived.Ground.PaProg
import Derived.Shelf.Path.FileSmall
import Derived.Test.Qxb6003379aDoorProg
namespace Go.Proofs
open Go.Shelf
def Tryd.lays162_ren : Go.Shelf.Ren := ⟨fun | 162 => 23 | 232 => 27 | 227 => 28 | 234 => 29 | 236 => 30 | 228 => 35 | 271 => 32 | 151 => 36 | 120 => 37 | 197 => 38 | 152 => 41 | 260 => 42 | 137 => 44 | 119 => 45 | 224 => 46 | 225 => 47 | 217 => 48 | 266 => 49 | n => n, fun | 9 => 9 | 4 => 4 | 3 => 3 | 5 => 5 | 117 => 36 | 116 => 35 | 0 => 0 | 124 => 39 | 21 => 21 | 105 => 40 | 46 => 49 | 119 => 51 | 139 => 54 | 138 => 53 | n => n, fun | 3 => 0 | 4 => 1 | n => n⟩
theorem Tryd.lays162 : Go.Proofs.Lays.n162 Tryd.prog Tryd.lays162_ren := {
  mixed := by kernel_rfl
  f119 := Tryd.func45.trans (congrArg some (by kernel_rfl))
  f120 := Tryd.func37.trans (congrArg some (by kernel_rfl))
  f137 := Tryd.func44.trans (congrArg some (by kernel_rfl))
  f151 := Tryd.func36.trans (congrArg some (by kernel_rfl))
  f152 := Tryd.func41.trans (congrArg some (by kernel_rfl))
  f162 := Tryd.func23.trans (congrArg some (by kernel_rfl))
  f197 := Tryd.func38.trans (congrArg some (by kernel_rfl))
  f217 := Tryd.func48.trans (congrArg some (by kernel_rfl))
  f224 := Tryd.func46.trans (congrArg some (by kernel_rfl))
  f225 := Tryd.func47.trans (congrArg some (by kernel_rfl))
  f227 := Tryd.func28.trans (congrArg some (by kernel_rfl))
  f228 := Tryd.func35.trans (congrArg some (by kernel_rfl))
  f232 := Tryd.func27.trans (congrArg some (by kernel_rfl))
  f234 := Tryd.func29.trans (congrArg some (by kernel_rfl))
  f236 := Tryd.func30.trans (congrArg some (by kernel_rfl))
  f260 := Tryd.func42.trans (congrArg some (by kernel_rfl))
  f266 := Tryd.func49.trans (congrArg some (by kernel_rfl))
  f271 := Tryd.func32.trans (congrArg some (by kernel_rfl))
  t0 := Tryd.underlying0
  a0 := Tryd.isAgg0
  z0 := Tryd.sizeOf0
  v0 := Tryd.zeroValue0
  t3 := Tryd.underlying3
  a3 := Tryd.isAgg3
  z3 := Tryd.sizeOf3
  v3 := Tryd.zeroValue3
  t4 := Tryd.underlying4
  a4 := Tryd.isAgg4
  z4 := Tryd.sizeOf4
  v4 := Tryd.zeroValue4
  t5 := Tryd.underlying5
  a5 := Tryd.isAgg5
  z5 := Tryd.sizeOf5
  v5 := Tryd.zeroValue5
  t9 := Tryd.underlying9
  a9 := Tryd.isAgg9
  z9 := Tryd.sizeOf9
  v9 := Tryd.zeroValue9
  t21 := Tryd.underlying21
  a21 := Tryd.isAgg21
  z21 := Tryd.sizeOf21
  v21 := Tryd.zeroValue21
  t46 := Tryd.underlying49
  a46 := Tryd.isAgg49
  z46 := Tryd.sizeOf49
  v46 := Tryd.zeroValue49
  t105 := Tryd.underlying40
  a105 := Tryd.isAgg40
  z105 := Tryd.sizeOf40
  v105 := Tryd.zeroValue40
  t116 := Tryd.underlying35
  a116 := Tryd.isAgg35
  z116 := Tryd.sizeOf35
  t117 := Tryd.underlying36
  a117 := Tryd.isAgg36
  z117 := Tryd.sizeOf36
  v117 := Tryd.zeroValue36
  t119 := Tryd.underlying51
  a119 := Tryd.isAgg51
  z119 := Tryd.sizeOf51
  t124 := Tryd.underlying39
  a124 := Tryd.isAgg39
  z124 := Tryd.sizeOf39
  v124 := Tryd.zeroValue39
  t138 := Tryd.underlying53
  a138 := Tryd.isAgg53
  z138 := Tryd.sizeOf53
  v138 := Tryd.zeroValue53
  t139 := Tryd.underlying54
  a139 := Tryd.isAgg54
  z139 := Tryd.sizeOf54
  v139 := Tryd.zeroValue54
  g3 := by kernel_rfl
  g4 := by kernel_rfl }
open Go.RowKit in
theorem Tryd.strings_TrimRight_one (s : ByteArray) (c : UInt8) (hc : c.toNat < 128) (w : World) (hs : s.size ≤ 9223372036854775807) :
    Calls Tryd.prog 23 #[.string s, .string ⟨#[c]⟩] w fun e w' => e = .returned (.string ⟨(Lib.trimRightB s.data.toList c).toArray⟩) ∧ w' = w := Any.strings_TrimRight_one Tryd.lays162 s c hc w hs
def Tryd.lays100_ren : Go.Shelf.Ren := ⟨fun | 100 => 24 | 207 => 31 | n => n, fun | 9 => 9 | 4 => 4 | 3 => 3 | n => n, fun | n => n⟩
theorem Tryd.lays100 : Go.Proofs.Lays.n100 Tryd.prog Tryd.lays100_ren := {
  mixed := by kernel_rfl
  f100 := Tryd.func24.trans (congrArg some (by kernel_rfl))
  f207 := Tryd.func31.trans (congrArg some (by kernel_rfl))
  t3 := Tryd.underlying3
  a3 := Tryd.isAgg3
  z3 := Tryd.sizeOf3
  v3 := Tryd.zeroValue3
  t4 := Tryd.underlying4
  a4 := Tryd.isAgg4
  z4 := Tryd.sizeOf4
  v4 := Tryd.zeroValue4
  t9 := Tryd.underlying9
  a9 := Tryd.isAgg9
  z9 := Tryd.sizeOf9
  v9 := Tryd.zeroValue9 }
open Go.RowKit Go.Lib in
theorem Tryd.strings_HasSuffix (s p : ByteArray) (w : World) (hs : s.size ≤ 9223372036854775807) :
    Calls Tryd.prog 24 #[.string s, .string p] w fun e w' => e = .returned (.bool (Lib.hasSuffix s.data.toList p.data.toList)) ∧ w' = w := Any.strings_HasSuffix Tryd.lays100 s p w hs
def Tryd.laysPa36_ren : Go.Shelf.Ren := ⟨fun | 36 => 22 | 53 => 26 | 57 => 33 | 56 => 34 | 59 => 40 | 60 => 39 | 66 => 43 | 70 => 48 | 73 => 49 | n => n, fun | 9 => 9 | 24 => 31 | 3 => 3 | 4 => 4 | 5 => 5 | 30 => 55 | 0 => 0 | n => n, fun | n => n⟩
theorem Tryd.laysPa36 : Go.Proofs.Lays.p36 Tryd.prog Tryd.laysPa36_ren := {
  mixed := by kernel_rfl
  f36 := Tryd.func22.trans (congrArg some (by kernel_rfl))
  f53 := Tryd.func26.trans (congrArg some (by kernel_rfl))
  f56 := Tryd.func34.trans (congrArg some (by kernel_rfl))
  f57 := Tryd.func33.trans (congrArg some (by kernel_rfl))
  f59 := Tryd.func40.trans (congrArg some (by kernel_rfl))
  f60 := Tryd.func39.trans (congrArg some (by kernel_rfl))
  f66 := Tryd.func43.trans (congrArg some (by kernel_rfl))
  f70 := Tryd.func48.trans (congrArg some (by kernel_rfl))
  f73 := Tryd.func49.trans (congrArg some (by kernel_rfl))
  t0 := Tryd.underlying0
  a0 := Tryd.isAgg0
  z0 := Tryd.sizeOf0
  v0 := Tryd.zeroValue0
  t3 := Tryd.underlying3
  a3 := Tryd.isAgg3
  z3 := Tryd.sizeOf3
  v3 := Tryd.zeroValue3
  t4 := Tryd.underlying4
  a4 := Tryd.isAgg4
  z4 := Tryd.sizeOf4
  v4 := Tryd.zeroValue4
  t5 := Tryd.underlying5
  a5 := Tryd.isAgg5
  z5 := Tryd.sizeOf5
  v5 := Tryd.zeroValue5
  t9 := Tryd.underlying9
  a9 := Tryd.isAgg9
  z9 := Tryd.sizeOf9
  v9 := Tryd.zeroValue9
  t24 := Tryd.underlying31
  a24 := Tryd.isAgg31
  z24 := Tryd.sizeOf31
  v24 := Tryd.zeroValue31
  t30 := Tryd.underlying55
  a30 := Tryd.isAgg55
  z30 := Tryd.sizeOf55
  v30 := Tryd.zeroValue55 }
open Go.RowKit Go.Lib in
theorem Tryd.filepath_Split (s : ByteArray) (w : World) (hs : s.size ≤ 9223372036854775807) :
    Calls Tryd.prog 22 #[.string s] w fun e w' => e = .returned (.tuple #[.string ⟨(Pa.split s.data.toList).1.toArray⟩, .string ⟨(Pa.split s.data.toList).2.toArray⟩]) ∧ ∃ n, w' = w.drewN n := Any.filepath_Split Tryd.laysPa36 s w hs
end Go.Proofs
