import Derived.Shelf.Strings.Trim
import Derived.Shelf.Small.Utf8
import Derived.Shelf.Small.Strs
import Derived.Shelf.Small.Wraps
import Derived.Shelf.Strconv.Itoa0
import Derived.Shelf.Strconv.Itoa1
import Derived.Shelf.LaysM
import Derived.Shelf.Strconv.Itoa2
import Derived.Shelf.Strconv.Itoa3
import Derived.Shelf.Strconv.Itoa4
import Derived.Shelf.Strconv.ParseIntEmpty
import Derived.Shelf.Strconv.Clone
import Derived.Shelf.Strconv.SyntaxError
import Derived.Shelf.LaysC
import Derived.Shelf.Strconv.ToError
import Derived.Shelf.Strconv.Lower
import Derived.Shelf.Strconv.ParseUint10
import Derived.Shelf.Strconv.ParseUint10Empty
import Derived.Shelf.Strconv.ParseUint10Any
import Derived.Shelf.Strconv.ParseInt10
import Derived.Shelf.Strconv.RangeError
import Derived.Shelf.Strconv.ToErrorRange
import Derived.Shelf.Strconv.ParseUintEmpty
import Derived.Shelf.Strconv.ParseUint10b64
import Derived.Shelf.Strconv.ParseUint10b32
import Derived.Shelf.Strconv.ParseUint10b16
import Derived.Shelf.Strconv.ParseUint10b8
import Derived.Shelf.Strconv.ParseUint10At
import Derived.Shelf.Strconv.ParseInt10At64
import Derived.Shelf.Strconv.ParseInt10At32
import Derived.Shelf.Strconv.ParseInt10At16
import Derived.Shelf.Strconv.ParseInt10At8
import Derived.Shelf.Strconv.ParseInt10All
import Derived.Shelf.Strconv.ParseIntPublic10
import Derived.Shelf.Strconv.ErrVarParseInt
import Derived.Shelf.Strings.Search1
import Derived.Shelf.Strings.Search2
import Derived.Shelf.Strings.Search3
import Derived.Shelf.Strings.Cut
import Derived.Shelf.Strings.Shaped
import Derived.Shelf.Strings.Prefix
import Derived.Shelf.Unicode.Decode
import Derived.Shelf.Strings.Runes
import Derived.Shelf.Strings.IndexAny
import Derived.Shelf.Strings.AsciiSet
import Derived.Shelf.Strings.IndexAnyAll
import Derived.Shelf.Unicode.DecodeSlow
import Derived.Shelf.Unicode.DecodeAny
import Derived.Shelf.Unicode.DecodeLast
import Derived.Shelf.Strings.SlTrimAscii
import Derived.Test.Qxb6606029aDoorProg
namespace Go.Proofs
open Go.Shelf
def Tryd.lays161_ren : Go.Shelf.Ren := ⟨fun | 161 => 29 | 231 => 46 | 227 => 42 | 233 => 47 | 235 => 48 | 228 => 43 | 197 => 64 | 151 => 65 | 260 => 79 | 152 => 40 | 137 => 59 | 119 => 60 | 224 => 61 | 225 => 62 | 217 => 77 | 266 => 90 | n => n, fun | 9 => 9 | 4 => 4 | 3 => 3 | 5 => 5 | 117 => 61 | 116 => 60 | 0 => 0 | 124 => 65 | 105 => 71 | 21 => 21 | 119 => 97 | 46 => 70 | 139 => 100 | 138 => 99 | n => n, fun | 3 => 4 | 4 => 5 | n => n⟩
theorem Tryd.lays161 : Go.Proofs.Lays.n161 Tryd.prog Tryd.lays161_ren := {
  mixed := by kernel_rfl
  f119 := Tryd.func60.trans (congrArg some (by kernel_rfl))
  f137 := Tryd.func59.trans (congrArg some (by kernel_rfl))
  f151 := Tryd.func65.trans (congrArg some (by kernel_rfl))
  f152 := Tryd.func40.trans (congrArg some (by kernel_rfl))
  f161 := Tryd.func29.trans (congrArg some (by kernel_rfl))
  f197 := Tryd.func64.trans (congrArg some (by kernel_rfl))
  f217 := Tryd.func77.trans (congrArg some (by kernel_rfl))
  f224 := Tryd.func61.trans (congrArg some (by kernel_rfl))
  f225 := Tryd.func62.trans (congrArg some (by kernel_rfl))
  f227 := Tryd.func42.trans (congrArg some (by kernel_rfl))
  f228 := Tryd.func43.trans (congrArg some (by kernel_rfl))
  f231 := Tryd.func46.trans (congrArg some (by kernel_rfl))
  f233 := Tryd.func47.trans (congrArg some (by kernel_rfl))
  f235 := Tryd.func48.trans (congrArg some (by kernel_rfl))
  f260 := Tryd.func79.trans (congrArg some (by kernel_rfl))
  f266 := Tryd.func90.trans (congrArg some (by kernel_rfl))
  t0 := Tryd.underlying0
  a0 := Tryd.isAgg0
  z0 := Tryd.sizeOf0
  v0 := Tryd.zeroValue0
  t3 := Tryd.underlying3
  a3 := Tryd.isAgg3
  z3 := Tryd.sizeOf3
  v3 := Tryd.zeroValue3
  t4 := Tryd.underlying4
  a4 := Tryd.isAgg4
  z4 := Tryd.sizeOf4
  v4 := Tryd.zeroValue4
  t5 := Tryd.underlying5
  a5 := Tryd.isAgg5
  z5 := Tryd.sizeOf5
  v5 := Tryd.zeroValue5
  t9 := Tryd.underlying9
  a9 := Tryd.isAgg9
  z9 := Tryd.sizeOf9
  v9 := Tryd.zeroValue9
  t21 := Tryd.underlying21
  a21 := Tryd.isAgg21
  z21 := Tryd.sizeOf21
  v21 := Tryd.zeroValue21
  t46 := Tryd.underlying70
  a46 := Tryd.isAgg70
  z46 := Tryd.sizeOf70
  v46 := Tryd.zeroValue70
  t105 := Tryd.underlying71
  a105 := Tryd.isAgg71
  z105 := Tryd.sizeOf71
  v105 := Tryd.zeroValue71
  t116 := Tryd.underlying60
  a116 := Tryd.isAgg60
  z116 := Tryd.sizeOf60
  t117 := Tryd.underlying61
  a117 := Tryd.isAgg61
  z117 := Tryd.sizeOf61
  v117 := Tryd.zeroValue61
  t119 := Tryd.underlying97
  a119 := Tryd.isAgg97
  z119 := Tryd.sizeOf97
  t124 := Tryd.underlying65
  a124 := Tryd.isAgg65
  z124 := Tryd.sizeOf65
  v124 := Tryd.zeroValue65
  t138 := Tryd.underlying99
  a138 := Tryd.isAgg99
  z138 := Tryd.sizeOf99
  v138 := Tryd.zeroValue99
  t139 := Tryd.underlying100
  a139 := Tryd.isAgg100
  z139 := Tryd.sizeOf100
  v139 := Tryd.zeroValue100
  g3 := by kernel_rfl
  g4 := by kernel_rfl }
open Go.RowKit in
theorem Tryd.strings_TrimLeft_one (s : ByteArray) (c : UInt8) (hc : c.toNat < 128) (w : World) :
    Calls Tryd.prog 29 #[.string s, .string ⟨#[c]⟩] w fun e w' => e = .returned (.string ⟨(Lib.trimLeftB s.data.toList c).toArray⟩) ∧ w' = w := Any.strings_TrimLeft_one Tryd.lays161 s c hc w
def Tryd.lays162_ren : Go.Shelf.Ren := ⟨fun | 162 => 31 | 232 => 50 | 227 => 42 | 234 => 51 | 236 => 52 | 228 => 43 | 271 => 66 | 151 => 65 | 120 => 80 | 197 => 64 | 152 => 40 | 260 => 79 | 137 => 59 | 119 => 60 | 224 => 61 | 225 => 62 | 217 => 77 | 266 => 90 | n => n, fun | 9 => 9 | 4 => 4 | 3 => 3 | 5 => 5 | 117 => 61 | 116 => 60 | 0 => 0 | 124 => 65 | 21 => 21 | 105 => 71 | 46 => 70 | 119 => 97 | 139 => 100 | 138 => 99 | n => n, fun | 3 => 4 | 4 => 5 | n => n⟩
theorem Tryd.lays162 : Go.Proofs.Lays.n162 Tryd.prog Tryd.lays162_ren := {
  mixed := by kernel_rfl
  f119 := Tryd.func60.trans (congrArg some (by kernel_rfl))
  f120 := Tryd.func80.trans (congrArg some (by kernel_rfl))
  f137 := Tryd.func59.trans (congrArg some (by kernel_rfl))
  f151 := Tryd.func65.trans (congrArg some (by kernel_rfl))
  f152 := Tryd.func40.trans (congrArg some (by kernel_rfl))
  f162 := Tryd.func31.trans (congrArg some (by kernel_rfl))
  f197 := Tryd.func64.trans (congrArg some (by kernel_rfl))
  f217 := Tryd.func77.trans (congrArg some (by kernel_rfl))
  f224 := Tryd.func61.trans (congrArg some (by kernel_rfl))
  f225 := Tryd.func62.trans (congrArg some (by kernel_rfl))
  f227 := Tryd.func42.trans (congrArg some (by kernel_rfl))
  f228 := Tryd.func43.trans (congrArg some (by kernel_rfl))
  f232 := Tryd.func50.trans (congrArg some (by kernel_rfl))
  f234 := Tryd.func51.trans (congrArg some (by kernel_rfl))
  f236 := Tryd.func52.trans (congrArg some (by kernel_rfl))
  f260 := Tryd.func79.trans (congrArg some (by kernel_rfl))
  f266 := Tryd.func90.trans (congrArg some (by kernel_rfl))
  f271 := Tryd.func66.trans (congrArg some (by kernel_rfl))
  t0 := Tryd.underlying0
  a0 := Tryd.isAgg0
  z0 := Tryd.sizeOf0
  v0 := Tryd.zeroValue0
  t3 := Tryd.underlying3
  a3 := Tryd.isAgg3
  z3 := Tryd.sizeOf3
  v3 := Tryd.zeroValue3
  t4 := Tryd.underlying4
  a4 := Tryd.isAgg4
  z4 := Tryd.sizeOf4
  v4 := Tryd.zeroValue4
  t5 := Tryd.underlying5
  a5 := Tryd.isAgg5
  z5 := Tryd.sizeOf5
  v5 := Tryd.zeroValue5
  t9 := Tryd.underlying9
  a9 := Tryd.isAgg9
  z9 := Tryd.sizeOf9
  v9 := Tryd.zeroValue9
  t21 := Tryd.underlying21
  a21 := Tryd.isAgg21
  z21 := Tryd.sizeOf21
  v21 := Tryd.zeroValue21
  t46 := Tryd.underlying70
  a46 := Tryd.isAgg70
  z46 := Tryd.sizeOf70
  v46 := Tryd.zeroValue70
  t105 := Tryd.underlying71
  a105 := Tryd.isAgg71
  z105 := Tryd.sizeOf71
  v105 := Tryd.zeroValue71
  t116 := Tryd.underlying60
  a116 := Tryd.isAgg60
  z116 := Tryd.sizeOf60
  t117 := Tryd.underlying61
  a117 := Tryd.isAgg61
  z117 := Tryd.sizeOf61
  v117 := Tryd.zeroValue61
  t119 := Tryd.underlying97
  a119 := Tryd.isAgg97
  z119 := Tryd.sizeOf97
  t124 := Tryd.underlying65
  a124 := Tryd.isAgg65
  z124 := Tryd.sizeOf65
  v124 := Tryd.zeroValue65
  t138 := Tryd.underlying99
  a138 := Tryd.isAgg99
  z138 := Tryd.sizeOf99
  v138 := Tryd.zeroValue99
  t139 := Tryd.underlying100
  a139 := Tryd.isAgg100
  z139 := Tryd.sizeOf100
  v139 := Tryd.zeroValue100
  g3 := by kernel_rfl
  g4 := by kernel_rfl }
open Go.RowKit in
theorem Tryd.strings_TrimRight_one (s : ByteArray) (c : UInt8) (hc : c.toNat < 128) (w : World) (hs : s.size ≤ 9223372036854775807) :
    Calls Tryd.prog 31 #[.string s, .string ⟨#[c]⟩] w fun e w' => e = .returned (.string ⟨(Lib.trimRightB s.data.toList c).toArray⟩) ∧ w' = w := Any.strings_TrimRight_one Tryd.lays162 s c hc w hs
def Tryd.lays103_ren : Go.Shelf.Ren := ⟨fun | 103 => 34 | 210 => 53 | 206 => 67 | n => n, fun | 9 => 9 | 4 => 4 | 24 => 47 | 3 => 3 | n => n, fun | n => n⟩
theorem Tryd.lays103 : Go.Proofs.Lays.n103 Tryd.prog Tryd.lays103_ren := {
  mixed := by kernel_rfl
  f103 := Tryd.func34.trans (congrArg some (by kernel_rfl))
  f206 := Tryd.func67.trans (congrArg some (by kernel_rfl))
  f210 := Tryd.func53.trans (congrArg some (by kernel_rfl))
  t3 := Tryd.underlying3
  a3 := Tryd.isAgg3
  z3 := Tryd.sizeOf3
  v3 := Tryd.zeroValue3
  t4 := Tryd.underlying4
  a4 := Tryd.isAgg4
  z4 := Tryd.sizeOf4
  v4 := Tryd.zeroValue4
  t9 := Tryd.underlying9
  a9 := Tryd.isAgg9
  z9 := Tryd.sizeOf9
  v9 := Tryd.zeroValue9
  t24 := Tryd.underlying47
  a24 := Tryd.isAgg47
  z24 := Tryd.sizeOf47
  v24 := Tryd.zeroValue47 }
open Go.RowKit in
theorem Tryd.strings_CutPrefix (s p : ByteArray) (w : World) :
    Calls Tryd.prog 34 #[.string s, .string p] w fun e w' => e = .returned (.tuple #[.string ⟨(Lib.trimPrefix s.data.toList p.data.toList).toArray⟩, .bool (Lib.hasPrefix s.data.toList p.data.toList)]) ∧ w' = w := Any.strings_CutPrefix Tryd.lays103 s p w
def Tryd.laysM171_ren : Go.Shelf.Ren := ⟨fun | 171 => 38 | 243 => 58 | 246 => 57 | 283 => 73 | 284 => 74 | 285 => 75 | 286 => 76 | 129 => 86 | 317 => 85 | 318 => 87 | 319 => 88 | 320 => 89 | 337 => 92 | 338 => 93 | n => n, fun | 3 => 3 | 9 => 9 | 2 => 2 | 4 => 4 | 171 => 80 | 0 => 0 | 53 => 38 | 37 => 46 | 5 => 5 | 173 => 83 | 212 => 91 | 51 => 92 | 20 => 20 | 213 => 93 | 46 => 70 | 232 => 106 | 233 => 107 | n => n, fun | 17 => 3 | 18 => 6 | 19 => 7 | n => n⟩
theorem Tryd.laysM171 : Go.Proofs.LaysM.n171 Tryd.prog Tryd.laysM171_ren := {
  mixed := by kernel_rfl
  f129 := Tryd.func86.trans (congrArg some (by kernel_rfl))
  f171 := Tryd.func38.trans (congrArg some (by kernel_rfl))
  f243 := Tryd.func58.trans (congrArg some (by kernel_rfl))
  f246 := Tryd.func57.trans (congrArg some (by kernel_rfl))
  f283 := Tryd.func73.trans (congrArg some (by kernel_rfl))
  f284 := Tryd.func74.trans (congrArg some (by kernel_rfl))
  f285 := Tryd.func75.trans (congrArg some (by kernel_rfl))
  f286 := Tryd.func76.trans (congrArg some (by kernel_rfl))
  f317 := Tryd.func85.trans (congrArg some (by kernel_rfl))
  f318 := Tryd.func87.trans (congrArg some (by kernel_rfl))
  f319 := Tryd.func88.trans (congrArg some (by kernel_rfl))
  f320 := Tryd.func89.trans (congrArg some (by kernel_rfl))
  f337 := Tryd.func92.trans (congrArg some (by kernel_rfl))
  f338 := Tryd.func93.trans (congrArg some (by kernel_rfl))
  t0 := Tryd.underlying0
  a0 := Tryd.isAgg0
  z0 := Tryd.sizeOf0
  v0 := Tryd.zeroValue0
  t2 := Tryd.underlying2
  a2 := Tryd.isAgg2
  z2 := Tryd.sizeOf2
  v2 := Tryd.zeroValue2
  t3 := Tryd.underlying3
  a3 := Tryd.isAgg3
  z3 := Tryd.sizeOf3
  v3 := Tryd.zeroValue3
  t4 := Tryd.underlying4
  a4 := Tryd.isAgg4
  z4 := Tryd.sizeOf4
  v4 := Tryd.zeroValue4
  t5 := Tryd.underlying5
  a5 := Tryd.isAgg5
  z5 := Tryd.sizeOf5
  v5 := Tryd.zeroValue5
  t9 := Tryd.underlying9
  a9 := Tryd.isAgg9
  z9 := Tryd.sizeOf9
  v9 := Tryd.zeroValue9
  t20 := Tryd.underlying20
  a20 := Tryd.isAgg20
  z20 := Tryd.sizeOf20
  v20 := Tryd.zeroValue20
  t37 := Tryd.underlying46
  a37 := Tryd.isAgg46
  z37 := Tryd.sizeOf46
  v37 := Tryd.zeroValue46
  t46 := Tryd.underlying70
  a46 := Tryd.isAgg70
  z46 := Tryd.sizeOf70
  v46 := Tryd.zeroValue70
  t51 := Tryd.underlying92
  a51 := Tryd.isAgg92
  z51 := Tryd.sizeOf92
  v51 := Tryd.zeroValue92
  t53 := Tryd.underlying38
  a53 := Tryd.isAgg38
  z53 := Tryd.sizeOf38
  v53 := Tryd.zeroValue38
  t171 := Tryd.underlying80
  a171 := Tryd.isAgg80
  z171 := Tryd.sizeOf80
  v171 := Tryd.zeroValue80
  t173 := Tryd.underlying83
  a173 := Tryd.isAgg83
  z173 := Tryd.sizeOf83
  v173 := Tryd.zeroValue83
  t212 := Tryd.underlying91
  a212 := Tryd.isAgg91
  z212 := Tryd.sizeOf91
  v212 := Tryd.zeroValue91
  t213 := Tryd.underlying93
  a213 := Tryd.isAgg93
  z213 := Tryd.sizeOf93
  t232 := Tryd.underlying106
  a232 := Tryd.isAgg106
  z232 := Tryd.sizeOf106
  v232 := Tryd.zeroValue106
  t233 := Tryd.underlying107
  a233 := Tryd.isAgg107
  z233 := Tryd.sizeOf107
  v233 := Tryd.zeroValue107
  g17 := by kernel_rfl
  g18 := by kernel_rfl
  g19 := by kernel_rfl
  i0 := by kernel_rfl
  i2 := by kernel_rfl
  i3 := by kernel_rfl
  i4 := by kernel_rfl
  i5 := by kernel_rfl
  i9 := by kernel_rfl
  i20 := by kernel_rfl
  i37 := by kernel_rfl
  i46 := by kernel_rfl
  i51 := by kernel_rfl
  i53 := by kernel_rfl
  i171 := by kernel_rfl
  i173 := by kernel_rfl
  i212 := by kernel_rfl
  i232 := by kernel_rfl
  i233 := by kernel_rfl
  m17 := by kernel_rfl
  m18 := by kernel_rfl
  m19 := by kernel_rfl }
def Tryd.lays171_ren : Go.Shelf.Ren := ⟨fun | 171 => 38 | 243 => 58 | 246 => 57 | 283 => 73 | 284 => 74 | 285 => 75 | 286 => 76 | 129 => 86 | 317 => 85 | 318 => 87 | 319 => 88 | 320 => 89 | 337 => 92 | 338 => 93 | n => n, fun | 3 => 3 | 9 => 9 | 2 => 2 | 4 => 4 | 171 => 80 | 0 => 0 | 53 => 38 | 37 => 46 | 5 => 5 | 173 => 83 | 212 => 91 | 51 => 92 | 20 => 20 | 213 => 93 | 46 => 70 | 232 => 106 | 233 => 107 | n => n, fun | 17 => 3 | 18 => 6 | 19 => 7 | n => n⟩
theorem Tryd.lays171 : Go.Proofs.Lays.n171 Tryd.prog Tryd.lays171_ren := {
  mixed := by kernel_rfl
  f129 := Tryd.func86.trans (congrArg some (by kernel_rfl))
  f171 := Tryd.func38.trans (congrArg some (by kernel_rfl))
  f243 := Tryd.func58.trans (congrArg some (by kernel_rfl))
  f246 := Tryd.func57.trans (congrArg some (by kernel_rfl))
  f283 := Tryd.func73.trans (congrArg some (by kernel_rfl))
  f284 := Tryd.func74.trans (congrArg some (by kernel_rfl))
  f285 := Tryd.func75.trans (congrArg some (by kernel_rfl))
  f286 := Tryd.func76.trans (congrArg some (by kernel_rfl))
  f317 := Tryd.func85.trans (congrArg some (by kernel_rfl))
  f318 := Tryd.func87.trans (congrArg some (by kernel_rfl))
  f319 := Tryd.func88.trans (congrArg some (by kernel_rfl))
  f320 := Tryd.func89.trans (congrArg some (by kernel_rfl))
  f337 := Tryd.func92.trans (congrArg some (by kernel_rfl))
  f338 := Tryd.func93.trans (congrArg some (by kernel_rfl))
  t0 := Tryd.underlying0
  a0 := Tryd.isAgg0
  z0 := Tryd.sizeOf0
  v0 := Tryd.zeroValue0
  t2 := Tryd.underlying2
  a2 := Tryd.isAgg2
  z2 := Tryd.sizeOf2
  v2 := Tryd.zeroValue2
  t3 := Tryd.underlying3
  a3 := Tryd.isAgg3
  z3 := Tryd.sizeOf3
  v3 := Tryd.zeroValue3
  t4 := Tryd.underlying4
  a4 := Tryd.isAgg4
  z4 := Tryd.sizeOf4
  v4 := Tryd.zeroValue4
  t5 := Tryd.underlying5
  a5 := Tryd.isAgg5
  z5 := Tryd.sizeOf5
  v5 := Tryd.zeroValue5
  t9 := Tryd.underlying9
  a9 := Tryd.isAgg9
  z9 := Tryd.sizeOf9
  v9 := Tryd.zeroValue9
  t20 := Tryd.underlying20
  a20 := Tryd.isAgg20
  z20 := Tryd.sizeOf20
  v20 := Tryd.zeroValue20
  t37 := Tryd.underlying46
  a37 := Tryd.isAgg46
  z37 := Tryd.sizeOf46
  v37 := Tryd.zeroValue46
  t46 := Tryd.underlying70
  a46 := Tryd.isAgg70
  z46 := Tryd.sizeOf70
  v46 := Tryd.zeroValue70
  t51 := Tryd.underlying92
  a51 := Tryd.isAgg92
  z51 := Tryd.sizeOf92
  v51 := Tryd.zeroValue92
  t53 := Tryd.underlying38
  a53 := Tryd.isAgg38
  z53 := Tryd.sizeOf38
  v53 := Tryd.zeroValue38
  t171 := Tryd.underlying80
  a171 := Tryd.isAgg80
  z171 := Tryd.sizeOf80
  v171 := Tryd.zeroValue80
  t173 := Tryd.underlying83
  a173 := Tryd.isAgg83
  z173 := Tryd.sizeOf83
  v173 := Tryd.zeroValue83
  t212 := Tryd.underlying91
  a212 := Tryd.isAgg91
  z212 := Tryd.sizeOf91
  v212 := Tryd.zeroValue91
  t213 := Tryd.underlying93
  a213 := Tryd.isAgg93
  z213 := Tryd.sizeOf93
  t232 := Tryd.underlying106
  a232 := Tryd.isAgg106
  z232 := Tryd.sizeOf106
  v232 := Tryd.zeroValue106
  t233 := Tryd.underlying107
  a233 := Tryd.isAgg107
  z233 := Tryd.sizeOf107
  v233 := Tryd.zeroValue107
  g17 := by kernel_rfl
  g18 := by kernel_rfl
  g19 := by kernel_rfl }
open Go.RowKit Go.Sort Go.Lib in
theorem Tryd.strconv_Itoa_small (i : Nat) (hi : i < 100) (w : World) :
    Calls Tryd.prog 38 #[.int .i64 i] w fun e w' => e = .returned (.string ⟨(Lib.decDigits i).toArray⟩) ∧ w' = w := Any.strconv_Itoa_small Tryd.lays171 i hi w
def Tryd.laysM173_ren : Go.Shelf.Ren := ⟨fun | 173 => 37 | 246 => 57 | 283 => 73 | 284 => 74 | 285 => 75 | 286 => 76 | 129 => 86 | 317 => 85 | 318 => 87 | 319 => 88 | 320 => 89 | 337 => 92 | 338 => 93 | n => n, fun | 2 => 2 | 3 => 3 | 9 => 9 | 4 => 4 | 171 => 80 | 0 => 0 | 53 => 38 | 37 => 46 | 5 => 5 | 173 => 83 | 212 => 91 | 51 => 92 | 20 => 20 | 213 => 93 | 46 => 70 | 232 => 106 | 233 => 107 | n => n, fun | 17 => 3 | 18 => 6 | 19 => 7 | n => n⟩
theorem Tryd.laysM173 : Go.Proofs.LaysM.n173 Tryd.prog Tryd.laysM173_ren := {
  mixed := by kernel_rfl
  f129 := Tryd.func86.trans (congrArg some (by kernel_rfl))
  f173 := Tryd.func37.trans (congrArg some (by kernel_rfl))
  f246 := Tryd.func57.trans (congrArg some (by kernel_rfl))
  f283 := Tryd.func73.trans (congrArg some (by kernel_rfl))
  f284 := Tryd.func74.trans (congrArg some (by kernel_rfl))
  f285 := Tryd.func75.trans (congrArg some (by kernel_rfl))
  f286 := Tryd.func76.trans (congrArg some (by kernel_rfl))
  f317 := Tryd.func85.trans (congrArg some (by kernel_rfl))
  f318 := Tryd.func87.trans (congrArg some (by kernel_rfl))
  f319 := Tryd.func88.trans (congrArg some (by kernel_rfl))
  f320 := Tryd.func89.trans (congrArg some (by kernel_rfl))
  f337 := Tryd.func92.trans (congrArg some (by kernel_rfl))
  f338 := Tryd.func93.trans (congrArg some (by kernel_rfl))
  t0 := Tryd.underlying0
  a0 := Tryd.isAgg0
  z0 := Tryd.sizeOf0
  v0 := Tryd.zeroValue0
  t2 := Tryd.underlying2
  a2 := Tryd.isAgg2
  z2 := Tryd.sizeOf2
  v2 := Tryd.zeroValue2
  t3 := Tryd.underlying3
  a3 := Tryd.isAgg3
  z3 := Tryd.sizeOf3
  v3 := Tryd.zeroValue3
  t4 := Tryd.underlying4
  a4 := Tryd.isAgg4
  z4 := Tryd.sizeOf4
  v4 := Tryd.zeroValue4
  t5 := Tryd.underlying5
  a5 := Tryd.isAgg5
  z5 := Tryd.sizeOf5
  v5 := Tryd.zeroValue5
  t9 := Tryd.underlying9
  a9 := Tryd.isAgg9
  z9 := Tryd.sizeOf9
  v9 := Tryd.zeroValue9
  t20 := Tryd.underlying20
  a20 := Tryd.isAgg20
  z20 := Tryd.sizeOf20
  v20 := Tryd.zeroValue20
  t37 := Tryd.underlying46
  a37 := Tryd.isAgg46
  z37 := Tryd.sizeOf46
  v37 := Tryd.zeroValue46
  t46 := Tryd.underlying70
  a46 := Tryd.isAgg70
  z46 := Tryd.sizeOf70
  v46 := Tryd.zeroValue70
  t51 := Tryd.underlying92
  a51 := Tryd.isAgg92
  z51 := Tryd.sizeOf92
  v51 := Tryd.zeroValue92
  t53 := Tryd.underlying38
  a53 := Tryd.isAgg38
  z53 := Tryd.sizeOf38
  v53 := Tryd.zeroValue38
  t171 := Tryd.underlying80
  a171 := Tryd.isAgg80
  z171 := Tryd.sizeOf80
  v171 := Tryd.zeroValue80
  t173 := Tryd.underlying83
  a173 := Tryd.isAgg83
  z173 := Tryd.sizeOf83
  v173 := Tryd.zeroValue83
  t212 := Tryd.underlying91
  a212 := Tryd.isAgg91
  z212 := Tryd.sizeOf91
  v212 := Tryd.zeroValue91
  t213 := Tryd.underlying93
  a213 := Tryd.isAgg93
  z213 := Tryd.sizeOf93
  t232 := Tryd.underlying106
  a232 := Tryd.isAgg106
  z232 := Tryd.sizeOf106
  v232 := Tryd.zeroValue106
  t233 := Tryd.underlying107
  a233 := Tryd.isAgg107
  z233 := Tryd.sizeOf107
  v233 := Tryd.zeroValue107
  g17 := by kernel_rfl
  g18 := by kernel_rfl
  g19 := by kernel_rfl
  i0 := by kernel_rfl
  i2 := by kernel_rfl
  i3 := by kernel_rfl
  i4 := by kernel_rfl
  i5 := by kernel_rfl
  i9 := by kernel_rfl
  i20 := by kernel_rfl
  i37 := by kernel_rfl
  i46 := by kernel_rfl
  i51 := by kernel_rfl
  i53 := by kernel_rfl
  i171 := by kernel_rfl
  i173 := by kernel_rfl
  i212 := by kernel_rfl
  i232 := by kernel_rfl
  i233 := by kernel_rfl
  m17 := by kernel_rfl
  m18 := by kernel_rfl
  m19 := by kernel_rfl }
def Tryd.laysC174_ren : Go.Shelf.Ren := ⟨fun | 174 => 36 | 247 => 55 | 245 => 56 | 287 => 68 | 279 => 69 | 280 => 70 | 281 => 71 | 282 => 72 | 321 => 81 | 322 => 82 | 316 => 83 | 171 => 38 | 205 => 84 | 243 => 58 | 246 => 57 | 283 => 73 | 284 => 74 | 285 => 75 | 286 => 76 | 129 => 86 | 317 => 85 | 318 => 87 | 319 => 88 | 320 => 89 | 337 => 92 | 338 => 93 | n => n, fun | 9 => 9 | 3 => 3 | 2 => 2 | 75 => 50 | 85 => 51 | 4 => 4 | 167 => 74 | 5 => 5 | 53 => 38 | 175 => 75 | 46 => 70 | 168 => 77 | 37 => 46 | 0 => 0 | 210 => 88 | 21 => 21 | 127 => 101 | 145 => 104 | 143 => 102 | 171 => 80 | 173 => 83 | 212 => 91 | 51 => 92 | 20 => 20 | 213 => 93 | 232 => 106 | 233 => 107 | 80 => 108 | n => n, fun | 15 => 1 | 16 => 2 | 17 => 3 | 18 => 6 | 19 => 7 | n => n⟩
theorem Tryd.laysC174 : Go.Proofs.LaysC.n174 Tryd.prog Tryd.laysC174_ren := {
  mixed := by kernel_rfl
  f129 := Tryd.func86.trans (congrArg some (by kernel_rfl))
  f171 := Tryd.func38.trans (congrArg some (by kernel_rfl))
  f174 := Tryd.func36.trans (congrArg some (by kernel_rfl))
  f205 := Tryd.func84.trans (congrArg some (by kernel_rfl))
  f243 := Tryd.func58.trans (congrArg some (by kernel_rfl))
  f245 := Tryd.func56.trans (congrArg some (by kernel_rfl))
  f246 := Tryd.func57.trans (congrArg some (by kernel_rfl))
  f247 := Tryd.func55.trans (congrArg some (by kernel_rfl))
  f279 := Tryd.func69.trans (congrArg some (by kernel_rfl))
  f280 := Tryd.func70.trans (congrArg some (by kernel_rfl))
  f281 := Tryd.func71.trans (congrArg some (by kernel_rfl))
  f282 := Tryd.func72.trans (congrArg some (by kernel_rfl))
  f283 := Tryd.func73.trans (congrArg some (by kernel_rfl))
  f284 := Tryd.func74.trans (congrArg some (by kernel_rfl))
  f285 := Tryd.func75.trans (congrArg some (by kernel_rfl))
  f286 := Tryd.func76.trans (congrArg some (by kernel_rfl))
  f287 := Tryd.func68.trans (congrArg some (by kernel_rfl))
  f316 := Tryd.func83.trans (congrArg some (by kernel_rfl))
  f317 := Tryd.func85.trans (congrArg some (by kernel_rfl))
  f318 := Tryd.func87.trans (congrArg some (by kernel_rfl))
  f319 := Tryd.func88.trans (congrArg some (by kernel_rfl))
  f320 := Tryd.func89.trans (congrArg some (by kernel_rfl))
  f321 := Tryd.func81.trans (congrArg some (by kernel_rfl))
  f322 := Tryd.func82.trans (congrArg some (by kernel_rfl))
  f337 := Tryd.func92.trans (congrArg some (by kernel_rfl))
  f338 := Tryd.func93.trans (congrArg some (by kernel_rfl))
  t0 := Tryd.underlying0
  a0 := Tryd.isAgg0
  z0 := Tryd.sizeOf0
  v0 := Tryd.zeroValue0
  t2 := Tryd.underlying2
  a2 := Tryd.isAgg2
  z2 := Tryd.sizeOf2
  v2 := Tryd.zeroValue2
  t3 := Tryd.underlying3
  a3 := Tryd.isAgg3
  z3 := Tryd.sizeOf3
  v3 := Tryd.zeroValue3
  t4 := Tryd.underlying4
  a4 := Tryd.isAgg4
  z4 := Tryd.sizeOf4
  v4 := Tryd.zeroValue4
  t5 := Tryd.underlying5
  a5 := Tryd.isAgg5
  z5 := Tryd.sizeOf5
  v5 := Tryd.zeroValue5
  t9 := Tryd.underlying9
  a9 := Tryd.isAgg9
  z9 := Tryd.sizeOf9
  v9 := Tryd.zeroValue9
  t20 := Tryd.underlying20
  a20 := Tryd.isAgg20
  z20 := Tryd.sizeOf20
  v20 := Tryd.zeroValue20
  t21 := Tryd.underlying21
  a21 := Tryd.isAgg21
  z21 := Tryd.sizeOf21
  v21 := Tryd.zeroValue21
  t37 := Tryd.underlying46
  a37 := Tryd.isAgg46
  z37 := Tryd.sizeOf46
  v37 := Tryd.zeroValue46
  t46 := Tryd.underlying70
  a46 := Tryd.isAgg70
  z46 := Tryd.sizeOf70
  v46 := Tryd.zeroValue70
  t51 := Tryd.underlying92
  a51 := Tryd.isAgg92
  z51 := Tryd.sizeOf92
  v51 := Tryd.zeroValue92
  t53 := Tryd.underlying38
  a53 := Tryd.isAgg38
  z53 := Tryd.sizeOf38
  v53 := Tryd.zeroValue38
  t75 := Tryd.underlying50
  a75 := Tryd.isAgg50
  z75 := Tryd.sizeOf50
  v75 := Tryd.zeroValue50
  t85 := Tryd.underlying51
  a85 := Tryd.isAgg51
  z85 := Tryd.sizeOf51
  v85 := Tryd.zeroValue51
  t127 := Tryd.underlying101
  a127 := Tryd.isAgg101
  z127 := Tryd.sizeOf101
  v127 := Tryd.zeroValue101
  t143 := Tryd.underlying102
  a143 := Tryd.isAgg102
  z143 := Tryd.sizeOf102
  v143 := Tryd.zeroValue102
  t145 := Tryd.underlying104
  a145 := Tryd.isAgg104
  z145 := Tryd.sizeOf104
  v145 := Tryd.zeroValue104
  t167 := Tryd.underlying74
  a167 := Tryd.isAgg74
  z167 := Tryd.sizeOf74
  v167 := Tryd.zeroValue74
  t168 := Tryd.underlying77
  a168 := Tryd.isAgg77
  z168 := Tryd.sizeOf77
  v168 := Tryd.zeroValue77
  t171 := Tryd.underlying80
  a171 := Tryd.isAgg80
  z171 := Tryd.sizeOf80
  v171 := Tryd.zeroValue80
  t173 := Tryd.underlying83
  a173 := Tryd.isAgg83
  z173 := Tryd.sizeOf83
  v173 := Tryd.zeroValue83
  t175 := Tryd.underlying75
  a175 := Tryd.isAgg75
  z175 := Tryd.sizeOf75
  v175 := Tryd.zeroValue75
  t210 := Tryd.underlying88
  a210 := Tryd.isAgg88
  z210 := Tryd.sizeOf88
  v210 := Tryd.zeroValue88
  t212 := Tryd.underlying91
  a212 := Tryd.isAgg91
  z212 := Tryd.sizeOf91
  v212 := Tryd.zeroValue91
  t213 := Tryd.underlying93
  a213 := Tryd.isAgg93
  z213 := Tryd.sizeOf93
  t232 := Tryd.underlying106
  a232 := Tryd.isAgg106
  z232 := Tryd.sizeOf106
  v232 := Tryd.zeroValue106
  t233 := Tryd.underlying107
  a233 := Tryd.isAgg107
  z233 := Tryd.sizeOf107
  v233 := Tryd.zeroValue107
  g15 := by kernel_rfl
  g16 := by kernel_rfl
  g17 := by kernel_rfl
  g18 := by kernel_rfl
  g19 := by kernel_rfl
  t80 := Tryd.underlying108
  a80 := Tryd.isAgg108
  z80 := Tryd.sizeOf108
  v80 := Tryd.zeroValue108
  i0 := by kernel_rfl
  i2 := by kernel_rfl
  i3 := by kernel_rfl
  i4 := by kernel_rfl
  i5 := by kernel_rfl
  i9 := by kernel_rfl
  i20 := by kernel_rfl
  i21 := by kernel_rfl
  i37 := by kernel_rfl
  i46 := by kernel_rfl
  i51 := by kernel_rfl
  i53 := by kernel_rfl
  i75 := by kernel_rfl
  i80 := by kernel_rfl
  i85 := by kernel_rfl
  i127 := by kernel_rfl
  i143 := by kernel_rfl
  i145 := by kernel_rfl
  i167 := by kernel_rfl
  i168 := by kernel_rfl
  i171 := by kernel_rfl
  i173 := by kernel_rfl
  i175 := by kernel_rfl
  i210 := by kernel_rfl
  i212 := by kernel_rfl
  i232 := by kernel_rfl
  i233 := by kernel_rfl
  m15 := by kernel_rfl
  m16 := by kernel_rfl
  m17 := by kernel_rfl
  m18 := by kernel_rfl
  m19 := by kernel_rfl
  c0 := by kernel_rfl
  c2 := by kernel_rfl
  c3 := by kernel_rfl
  c4 := by kernel_rfl
  c5 := by kernel_rfl
  c9 := by kernel_rfl
  c20 := by kernel_rfl
  c21 := by kernel_rfl
  c37 := by kernel_rfl
  c46 := by kernel_rfl
  c51 := by kernel_rfl
  c53 := by kernel_rfl
  c75 := by kernel_rfl
  c80 := by kernel_rfl
  c85 := by kernel_rfl
  c127 := by kernel_rfl
  c143 := by kernel_rfl
  c145 := by kernel_rfl
  c167 := by kernel_rfl
  c168 := by kernel_rfl
  c171 := by kernel_rfl
  c173 := by kernel_rfl
  c175 := by kernel_rfl
  c210 := by kernel_rfl
  c212 := by kernel_rfl
  c213 := by kernel_rfl
  c232 := by kernel_rfl
  c233 := by kernel_rfl }
open Go.RowKit in
theorem Tryd.strconv_ParseInt_10_at64_ok (s : ByteArray) (hmax : s.size ≤ 9223372036854775806) (v : Int) (h : Lib.parseIntB 64 s.data.toList = .ok v) (w : World) :
    Calls Tryd.prog 36 #[.string s, .int .i64 10, .int .i64 64] w fun e w' => e = .returned (.tuple #[.int .i64 v, .nilIface]) ∧ (w' = w ∨ ∃ t, w' = Lib.bytesWorld w 5 t) := Any.strconv_ParseInt_10_at64_ok Tryd.laysC174 s hmax v h w
def Tryd.lays144_ren : Go.Shelf.Ren := ⟨fun | 144 => 28 | 143 => 45 | 219 => 63 | 217 => 77 | 225 => 62 | 224 => 61 | 267 => 78 | 266 => 90 | 314 => 91 | n => n, fun | 9 => 9 | 4 => 4 | 3 => 3 | 5 => 5 | 46 => 70 | 146 => 95 | 51 => 92 | n => n, fun | 1 => 0 | n => n⟩
theorem Tryd.lays144 : Go.Proofs.Lays.n144 Tryd.prog Tryd.lays144_ren := {
  mixed := by kernel_rfl
  f143 := Tryd.func45.trans (congrArg some (by kernel_rfl))
  f144 := Tryd.func28.trans (congrArg some (by kernel_rfl))
  f217 := Tryd.func77.trans (congrArg some (by kernel_rfl))
  f219 := Tryd.func63.trans (congrArg some (by kernel_rfl))
  f224 := Tryd.func61.trans (congrArg some (by kernel_rfl))
  f225 := Tryd.func62.trans (congrArg some (by kernel_rfl))
  f266 := Tryd.func90.trans (congrArg some (by kernel_rfl))
  f267 := Tryd.func78.trans (congrArg some (by kernel_rfl))
  f314 := Tryd.func91.trans (congrArg some (by kernel_rfl))
  t3 := Tryd.underlying3
  a3 := Tryd.isAgg3
  z3 := Tryd.sizeOf3
  v3 := Tryd.zeroValue3
  t4 := Tryd.underlying4
  a4 := Tryd.isAgg4
  z4 := Tryd.sizeOf4
  v4 := Tryd.zeroValue4
  t5 := Tryd.underlying5
  a5 := Tryd.isAgg5
  z5 := Tryd.sizeOf5
  v5 := Tryd.zeroValue5
  t9 := Tryd.underlying9
  a9 := Tryd.isAgg9
  z9 := Tryd.sizeOf9
  v9 := Tryd.zeroValue9
  t46 := Tryd.underlying70
  a46 := Tryd.isAgg70
  z46 := Tryd.sizeOf70
  v46 := Tryd.zeroValue70
  t51 := Tryd.underlying92
  a51 := Tryd.isAgg92
  z51 := Tryd.sizeOf92
  v51 := Tryd.zeroValue92
  t146 := Tryd.underlying95
  a146 := Tryd.isAgg95
  z146 := Tryd.sizeOf95
  v146 := Tryd.zeroValue95
  g1 := by kernel_rfl }
open Go.RowKit Go.Lib in
theorem Tryd.strings_Contains_one (s : ByteArray) (c : UInt8) (w : World) :
    Calls Tryd.prog 28 #[.string s, .string ⟨#[c]⟩] w fun e w' => e = .returned (.bool (decide (0 ≤ Lib.indexByte s.data.toList c))) ∧ w' = w := Any.strings_Contains_one Tryd.lays144 s c w
def Tryd.lays145_ren : Go.Shelf.Ren := ⟨fun | 145 => 30 | 220 => 49 | 219 => 63 | 217 => 77 | 225 => 62 | 224 => 61 | 267 => 78 | 266 => 90 | 314 => 91 | n => n, fun | 9 => 9 | 4 => 4 | 59 => 43 | 3 => 3 | 5 => 5 | 46 => 70 | 146 => 95 | 51 => 92 | n => n, fun | 1 => 0 | n => n⟩
theorem Tryd.lays145 : Go.Proofs.Lays.n145 Tryd.prog Tryd.lays145_ren := {
  mixed := by kernel_rfl
  f145 := Tryd.func30.trans (congrArg some (by kernel_rfl))
  f217 := Tryd.func77.trans (congrArg some (by kernel_rfl))
  f219 := Tryd.func63.trans (congrArg some (by kernel_rfl))
  f220 := Tryd.func49.trans (congrArg some (by kernel_rfl))
  f224 := Tryd.func61.trans (congrArg some (by kernel_rfl))
  f225 := Tryd.func62.trans (congrArg some (by kernel_rfl))
  f266 := Tryd.func90.trans (congrArg some (by kernel_rfl))
  f267 := Tryd.func78.trans (congrArg some (by kernel_rfl))
  f314 := Tryd.func91.trans (congrArg some (by kernel_rfl))
  t3 := Tryd.underlying3
  a3 := Tryd.isAgg3
  z3 := Tryd.sizeOf3
  v3 := Tryd.zeroValue3
  t4 := Tryd.underlying4
  a4 := Tryd.isAgg4
  z4 := Tryd.sizeOf4
  v4 := Tryd.zeroValue4
  t5 := Tryd.underlying5
  a5 := Tryd.isAgg5
  z5 := Tryd.sizeOf5
  v5 := Tryd.zeroValue5
  t9 := Tryd.underlying9
  a9 := Tryd.isAgg9
  z9 := Tryd.sizeOf9
  v9 := Tryd.zeroValue9
  t46 := Tryd.underlying70
  a46 := Tryd.isAgg70
  z46 := Tryd.sizeOf70
  v46 := Tryd.zeroValue70
  t51 := Tryd.underlying92
  a51 := Tryd.isAgg92
  z51 := Tryd.sizeOf92
  v51 := Tryd.zeroValue92
  t59 := Tryd.underlying43
  a59 := Tryd.isAgg43
  z59 := Tryd.sizeOf43
  v59 := Tryd.zeroValue43
  t146 := Tryd.underlying95
  a146 := Tryd.isAgg95
  z146 := Tryd.sizeOf95
  v146 := Tryd.zeroValue95
  g1 := by kernel_rfl }
open Go.RowKit Go.Lib in
theorem Tryd.strings_Cut (s sep : ByteArray) (m : Int) (w : World) (hs : s.size < 4294967281) (hm : w.cell? ⟨0, 0, none⟩ = some (.int .i64 m)) :
    Calls Tryd.prog 30 #[.string s, .string sep] w fun e w' => e = .returned (.tuple #[.string ⟨(Lib.cut s.data.toList sep.data.toList).1.toArray⟩, .string ⟨(Lib.cut s.data.toList sep.data.toList).2.1.toArray⟩, .bool (Lib.cut s.data.toList sep.data.toList).2.2]) ∧ ∃ n, w' = w.drewN n := Any.strings_Cut Tryd.lays145 s sep m w hs hm
def Tryd.lays101_ren : Go.Shelf.Ren := ⟨fun | 101 => 35 | 208 => 54 | 206 => 67 | n => n, fun | 9 => 9 | 4 => 4 | 3 => 3 | n => n, fun | n => n⟩
theorem Tryd.lays101 : Go.Proofs.Lays.n101 Tryd.prog Tryd.lays101_ren := {
  mixed := by kernel_rfl
  f101 := Tryd.func35.trans (congrArg some (by kernel_rfl))
  f206 := Tryd.func67.trans (congrArg some (by kernel_rfl))
  f208 := Tryd.func54.trans (congrArg some (by kernel_rfl))
  t3 := Tryd.underlying3
  a3 := Tryd.isAgg3
  z3 := Tryd.sizeOf3
  v3 := Tryd.zeroValue3
  t4 := Tryd.underlying4
  a4 := Tryd.isAgg4
  z4 := Tryd.sizeOf4
  v4 := Tryd.zeroValue4
  t9 := Tryd.underlying9
  a9 := Tryd.isAgg9
  z9 := Tryd.sizeOf9
  v9 := Tryd.zeroValue9 }
open Go.RowKit Go.Lib in
theorem Tryd.strings_TrimPrefix (s p : ByteArray) (w : World) :
    Calls Tryd.prog 35 #[.string s, .string p] w fun e w' => e = .returned (.string ⟨(Lib.trimPrefix s.data.toList p.data.toList).toArray⟩) ∧ w' = w := Any.strings_TrimPrefix Tryd.lays101 s p w
def Tryd.lays153_ren : Go.Shelf.Ren := ⟨fun | 153 => 26 | 152 => 40 | 226 => 41 | 227 => 42 | 228 => 43 | 137 => 59 | 119 => 60 | 224 => 61 | 225 => 62 | 217 => 77 | 266 => 90 | n => n, fun | 9 => 9 | 3 => 3 | 4 => 4 | 5 => 5 | 21 => 21 | 117 => 61 | 116 => 60 | 0 => 0 | 46 => 70 | 124 => 65 | n => n, fun | n => n⟩
theorem Tryd.lays153 : Go.Proofs.Lays.n153 Tryd.prog Tryd.lays153_ren := {
  mixed := by kernel_rfl
  f119 := Tryd.func60.trans (congrArg some (by kernel_rfl))
  f137 := Tryd.func59.trans (congrArg some (by kernel_rfl))
  f152 := Tryd.func40.trans (congrArg some (by kernel_rfl))
  f153 := Tryd.func26.trans (congrArg some (by kernel_rfl))
  f217 := Tryd.func77.trans (congrArg some (by kernel_rfl))
  f224 := Tryd.func61.trans (congrArg some (by kernel_rfl))
  f225 := Tryd.func62.trans (congrArg some (by kernel_rfl))
  f226 := Tryd.func41.trans (congrArg some (by kernel_rfl))
  f227 := Tryd.func42.trans (congrArg some (by kernel_rfl))
  f228 := Tryd.func43.trans (congrArg some (by kernel_rfl))
  f266 := Tryd.func90.trans (congrArg some (by kernel_rfl))
  t0 := Tryd.underlying0
  a0 := Tryd.isAgg0
  z0 := Tryd.sizeOf0
  v0 := Tryd.zeroValue0
  t3 := Tryd.underlying3
  a3 := Tryd.isAgg3
  z3 := Tryd.sizeOf3
  v3 := Tryd.zeroValue3
  t4 := Tryd.underlying4
  a4 := Tryd.isAgg4
  z4 := Tryd.sizeOf4
  v4 := Tryd.zeroValue4
  t5 := Tryd.underlying5
  a5 := Tryd.isAgg5
  z5 := Tryd.sizeOf5
  v5 := Tryd.zeroValue5
  t9 := Tryd.underlying9
  a9 := Tryd.isAgg9
  z9 := Tryd.sizeOf9
  v9 := Tryd.zeroValue9
  t21 := Tryd.underlying21
  a21 := Tryd.isAgg21
  z21 := Tryd.sizeOf21
  v21 := Tryd.zeroValue21
  t46 := Tryd.underlying70
  a46 := Tryd.isAgg70
  z46 := Tryd.sizeOf70
  v46 := Tryd.zeroValue70
  t116 := Tryd.underlying60
  a116 := Tryd.isAgg60
  z116 := Tryd.sizeOf60
  t117 := Tryd.underlying61
  a117 := Tryd.isAgg61
  z117 := Tryd.sizeOf61
  v117 := Tryd.zeroValue61
  t124 := Tryd.underlying65
  a124 := Tryd.isAgg65
  z124 := Tryd.sizeOf65
  v124 := Tryd.zeroValue65 }
open Go.RowKit Go.Lib in
theorem Tryd.strings_IndexAny_laid (s chars : ByteArray) (w : World) (hs : s.size < 4294967281) (hcs : chars.size < 4294967281) (has : ∀ (j : Nat) b, s.data.toList[j]? = some b → b.toNat < 128) (hac : ∀ (j : Nat) b, chars.data.toList[j]? = some b → b.toNat < 128) :
    Calls Tryd.prog 26 #[.string s, .string chars] w fun e w' => e = .returned (.int .i64 (Lib.indexAny s.data.toList chars.data.toList)) ∧ Below w.heap.size w w' := Any.strings_IndexAny_laid Tryd.lays153 (by kernel_rfl) s chars w hs hcs has hac
open Go.RowKit Go.Lib in
theorem Tryd.strings_TrimLeft_signs (s : ByteArray) (w : World) :
    Calls Tryd.prog 29 #[.string s, .string ⟨#[43, 45]⟩] w fun e w' => e = .returned (.string ⟨(Lib.trimLeftS s.data.toList [43, 45]).toArray⟩) ∧ Below w.heap.size w w' := Any.strings_TrimLeft_laid Tryd.lays161 (by kernel_rfl) s ⟨#[43, 45]⟩ w (by decide) (ascii_of_all (by decide))
end Go.Proofs
