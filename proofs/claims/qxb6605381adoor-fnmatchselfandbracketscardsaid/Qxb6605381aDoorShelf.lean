/-
  The library contracts at this dump, in plain words (laid by the kit's tools for this program).
-/
import Derived.Shelf.Strings.Trim
import Derived.Shelf.Small.Utf8
import Derived.Shelf.Small.Strs
import Derived.Shelf.Strings.Search1
import Derived.Shelf.Unicode.Decode
import Derived.Shelf.Strings.Runes
import Derived.Shelf.Strings.AsciiSet
import Derived.Shelf.Unicode.DecodeSlow
import Derived.Shelf.Unicode.DecodeAny
import Derived.Shelf.Unicode.DecodeLast
import Derived.Test.Qxb6605381aDoorProg
namespace Go.Proofs
open Go.Shelf
def Tryd.lays160_ren : Go.Shelf.Ren := ⟨fun | 160 => 33 | 232 => 35 | 231 => 34 | 227 => 36 | 234 => 38 | 233 => 37 | 236 => 40 | 235 => 39 | 228 => 41 | 271 => 44 | 151 => 43 | 197 => 42 | 120 => 47 | 152 => 46 | 260 => 45 | 137 => 48 | 119 => 49 | 224 => 50 | 225 => 51 | 217 => 52 | 266 => 53 | n => n, fun | 9 => 9 | 4 => 4 | 3 => 3 | 5 => 5 | 117 => 57 | 116 => 56 | 0 => 0 | 124 => 60 | 21 => 21 | 105 => 62 | 46 => 67 | 119 => 66 | 139 => 70 | 138 => 69 | n => n, fun | 3 => 0 | 4 => 1 | n => n⟩
theorem Tryd.lays160 : Go.Proofs.Lays.n160 Tryd.prog Tryd.lays160_ren := {
  mixed := by kernel_rfl
  f119 := Tryd.func49.trans (congrArg some (by kernel_rfl))
  f120 := Tryd.func47.trans (congrArg some (by kernel_rfl))
  f137 := Tryd.func48.trans (congrArg some (by kernel_rfl))
  f151 := Tryd.func43.trans (congrArg some (by kernel_rfl))
  f152 := Tryd.func46.trans (congrArg some (by kernel_rfl))
  f160 := Tryd.func33.trans (congrArg some (by kernel_rfl))
  f197 := Tryd.func42.trans (congrArg some (by kernel_rfl))
  f217 := Tryd.func52.trans (congrArg some (by kernel_rfl))
  f224 := Tryd.func50.trans (congrArg some (by kernel_rfl))
  f225 := Tryd.func51.trans (congrArg some (by kernel_rfl))
  f227 := Tryd.func36.trans (congrArg some (by kernel_rfl))
  f228 := Tryd.func41.trans (congrArg some (by kernel_rfl))
  f231 := Tryd.func34.trans (congrArg some (by kernel_rfl))
  f232 := Tryd.func35.trans (congrArg some (by kernel_rfl))
  f233 := Tryd.func37.trans (congrArg some (by kernel_rfl))
  f234 := Tryd.func38.trans (congrArg some (by kernel_rfl))
  f235 := Tryd.func39.trans (congrArg some (by kernel_rfl))
  f236 := Tryd.func40.trans (congrArg some (by kernel_rfl))
  f260 := Tryd.func45.trans (congrArg some (by kernel_rfl))
  f266 := Tryd.func53.trans (congrArg some (by kernel_rfl))
  f271 := Tryd.func44.trans (congrArg some (by kernel_rfl))
  t0 := Tryd.underlying0
  a0 := Tryd.isAgg0
  z0 := Tryd.sizeOf0
  v0 := Tryd.zeroValue0
  t3 := Tryd.underlying3
  a3 := Tryd.isAgg3
  z3 := Tryd.sizeOf3
  v3 := Tryd.zeroValue3
  t4 := Tryd.underlying4
  a4 := Tryd.isAgg4
  z4 := Tryd.sizeOf4
  v4 := Tryd.zeroValue4
  t5 := Tryd.underlying5
  a5 := Tryd.isAgg5
  z5 := Tryd.sizeOf5
  v5 := Tryd.zeroValue5
  t9 := Tryd.underlying9
  a9 := Tryd.isAgg9
  z9 := Tryd.sizeOf9
  v9 := Tryd.zeroValue9
  t21 := Tryd.underlying21
  a21 := Tryd.isAgg21
  z21 := Tryd.sizeOf21
  v21 := Tryd.zeroValue21
  t46 := Tryd.underlying67
  a46 := Tryd.isAgg67
  z46 := Tryd.sizeOf67
  v46 := Tryd.zeroValue67
  t105 := Tryd.underlying62
  a105 := Tryd.isAgg62
  z105 := Tryd.sizeOf62
  v105 := Tryd.zeroValue62
  t116 := Tryd.underlying56
  a116 := Tryd.isAgg56
  z116 := Tryd.sizeOf56
  t117 := Tryd.underlying57
  a117 := Tryd.isAgg57
  z117 := Tryd.sizeOf57
  v117 := Tryd.zeroValue57
  t119 := Tryd.underlying66
  a119 := Tryd.isAgg66
  z119 := Tryd.sizeOf66
  t124 := Tryd.underlying60
  a124 := Tryd.isAgg60
  z124 := Tryd.sizeOf60
  v124 := Tryd.zeroValue60
  t138 := Tryd.underlying69
  a138 := Tryd.isAgg69
  z138 := Tryd.sizeOf69
  v138 := Tryd.zeroValue69
  t139 := Tryd.underlying70
  a139 := Tryd.isAgg70
  z139 := Tryd.sizeOf70
  v139 := Tryd.zeroValue70
  g3 := by kernel_rfl
  g4 := by kernel_rfl }
open Go.RowKit in
theorem Tryd.strings_Trim_one (s : ByteArray) (c : UInt8) (hc : c.toNat < 128) (w : World) (hs : s.size ≤ 9223372036854775807) :
    Calls Tryd.prog 33 #[.string s, .string ⟨#[c]⟩] w fun e w' => e = .returned (.string ⟨(Lib.trimB s.data.toList c).toArray⟩) ∧ (w' = w ∨ w' = w.drew) := Any.strings_Trim_one Tryd.lays160 s c hc w hs
end Go.Proofs
