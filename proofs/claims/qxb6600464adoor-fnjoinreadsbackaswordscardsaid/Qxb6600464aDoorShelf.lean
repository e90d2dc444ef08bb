/-
  The library contracts at this dump, in plain words (laid by the kit's tools for this program).
-/
import Derived.Shelf.Strings.Builder1
import Derived.Shelf.Strings.Builder2
import Derived.Shelf.Strings.OnBuilder
import Derived.Shelf.Small.Utf8
import Derived.Shelf.Small.Strs
import Derived.Shelf.Strings.BuilderF
import Derived.Shelf.Strings.BuilderK
import Derived.Shelf.Strings.Search1
import Derived.Shelf.Strings.Search2
import Derived.Shelf.Strings.Search3
import Derived.Shelf.Strings.Count
import Derived.Shelf.LaysM
import Derived.Shelf.Strings.Shaped
import Derived.Shelf.GgClosure.StringsIndexFunc
import Derived.Ground.GgwProg
import Derived.Shelf.GgClosure.StringsIndexFuncTop
import Derived.Shelf.GgClosure.StringsRunes
import Derived.Shelf.Strings.Split
import Derived.Shelf.Strings.Replace
import Derived.Shelf.Strings.SplitShaped
import Derived.Shelf.Strings.Runes
import Derived.Shelf.Unicode.DecodeSlow
import Derived.Shelf.Unicode.DecodeAny
import Derived.Shelf.Strings.FuncGrows
import Derived.Test.Qxb6600464aDoorProg
namespace Go.Proofs
open Go.Shelf
def Tryd.lays156_ren : Go.Shelf.Ren := ⟨fun | 156 => 26 | 165 => 31 | 166 => 32 | 169 => 33 | 240 => 39 | 241 => 40 | 276 => 49 | 277 => 50 | n => n, fun | 31 => 23 | 9 => 9 | 3 => 3 | 4 => 4 | 0 => 0 | 20 => 20 | 72 => 47 | 76 => 51 | 70 => 45 | 37 => 33 | 75 => 50 | 127 => 58 | 164 => 63 | 5 => 5 | 80 => 53 | n => n, fun | n => n⟩
theorem Tryd.lays156 : Go.Proofs.Lays.n156 Tryd.prog Tryd.lays156_ren := {
  mixed := by kernel_rfl
  f156 := Tryd.func26.trans (congrArg some (by kernel_rfl))
  f165 := Tryd.func31.trans (congrArg some (by kernel_rfl))
  f166 := Tryd.func32.trans (congrArg some (by kernel_rfl))
  f169 := Tryd.func33.trans (congrArg some (by kernel_rfl))
  f240 := Tryd.func39.trans (congrArg some (by kernel_rfl))
  f241 := Tryd.func40.trans (congrArg some (by kernel_rfl))
  f276 := Tryd.func49.trans (congrArg some (by kernel_rfl))
  f277 := Tryd.func50.trans (congrArg some (by kernel_rfl))
  t0 := Tryd.underlying0
  a0 := Tryd.isAgg0
  z0 := Tryd.sizeOf0
  v0 := Tryd.zeroValue0
  t3 := Tryd.underlying3
  a3 := Tryd.isAgg3
  z3 := Tryd.sizeOf3
  v3 := Tryd.zeroValue3
  t4 := Tryd.underlying4
  a4 := Tryd.isAgg4
  z4 := Tryd.sizeOf4
  v4 := Tryd.zeroValue4
  t9 := Tryd.underlying9
  a9 := Tryd.isAgg9
  z9 := Tryd.sizeOf9
  v9 := Tryd.zeroValue9
  t20 := Tryd.underlying20
  a20 := Tryd.isAgg20
  z20 := Tryd.sizeOf20
  v20 := Tryd.zeroValue20
  t31 := Tryd.underlying23
  a31 := Tryd.isAgg23
  z31 := Tryd.sizeOf23
  v31 := Tryd.zeroValue23
  t37 := Tryd.underlying33
  a37 := Tryd.isAgg33
  z37 := Tryd.sizeOf33
  v37 := Tryd.zeroValue33
  t70 := Tryd.underlying45
  a70 := Tryd.isAgg45
  z70 := Tryd.sizeOf45
  v70 := Tryd.zeroValue45
  t72 := Tryd.underlying47
  a72 := Tryd.isAgg47
  z72 := Tryd.sizeOf47
  v72 := Tryd.zeroValue47
  t75 := Tryd.underlying50
  a75 := Tryd.isAgg50
  z75 := Tryd.sizeOf50
  v75 := Tryd.zeroValue50
  t76 := Tryd.underlying51
  a76 := Tryd.isAgg51
  z76 := Tryd.sizeOf51
  v76 := Tryd.zeroValue51
  t127 := Tryd.underlying58
  a127 := Tryd.isAgg58
  z127 := Tryd.sizeOf58
  v127 := Tryd.zeroValue58
  t164 := Tryd.underlying63
  a164 := Tryd.isAgg63
  z164 := Tryd.sizeOf63
  v164 := Tryd.zeroValue63 }
theorem Tryd.Builder_Extra_156 : Builder.Extra Tryd.prog Tryd.lays156_ren := {
  sizeBuilder := by kernel_rfl
  liesBuilder := by kernel_rfl
  t5 := Tryd.underlying5
  a5 := Tryd.isAgg5
  z5 := Tryd.sizeOf5
  v5 := Tryd.zeroValue5
  infoByte := by kernel_rfl
  cellsByte := by kernel_rfl
  sizeByte := by kernel_rfl
  neB5 := by decide }
open Go.RowKit in
theorem Tryd.strings_Join_none (a : Option Addr) (c : Nat) (sep : ByteArray) (w : World) :
    Calls Tryd.prog 26 #[.slice a 0 c, .string sep] w fun e w' => e = .returned (.string ⟨#[]⟩) ∧ w' = w := Any.strings_Join_none Tryd.lays156 Tryd.Builder_Extra_156 a c sep w
open Go.RowKit in
theorem Tryd.strings_Join (bk o c : Nat) (xs : List ByteArray) (sep : ByteArray) (w : World) (hcells : ∀ (j : Nat) x, xs[j]? = some x → w.cell? ⟨bk, o + j, none⟩ = some (.string x)) (hbk : bk < w.heap.size) (hN : xs.length ≤ 140737488355328) (hcap : xs.length ≤ c) (hlen : (Lib.join (xs.map (·.data.toList)) sep.data.toList).length ≤ 140737488355328) :
    Calls Tryd.prog 26 #[.slice (some ⟨bk, o, none⟩) xs.length c, .string sep] w fun e w' => e = .returned (.string ⟨(Lib.join (xs.map (·.data.toList)) sep.data.toList).toArray⟩) ∧ Below w.heap.size w w' := Any.strings_Join Tryd.lays156 Tryd.Builder_Extra_156 bk o c xs sep w hcells hbk hN hcap hlen
def Tryd.lays119_ren : Go.Shelf.Ren := ⟨fun | 119 => 42 | n => n, fun | 21 => 21 | 4 => 4 | n => n, fun | n => n⟩
theorem Tryd.lays119 : Go.Proofs.Lays.n119 Tryd.prog Tryd.lays119_ren := {
  mixed := by kernel_rfl
  f119 := Tryd.func42.trans (congrArg some (by kernel_rfl))
  t4 := Tryd.underlying4
  a4 := Tryd.isAgg4
  z4 := Tryd.sizeOf4
  v4 := Tryd.zeroValue4
  t21 := Tryd.underlying21
  a21 := Tryd.isAgg21
  z21 := Tryd.sizeOf21
  v21 := Tryd.zeroValue21 }
theorem Tryd.utf8_ValidRune (r : Int) (w : World) :
    Calls Tryd.prog 42 #[.int .i32 r] w fun e w' => e = .returned (.bool (Lib.validRune r)) ∧ w' = w := Any.utf8_ValidRune Tryd.lays119 r w
def Tryd.lays137_ren : Go.Shelf.Ren := ⟨fun | 137 => 41 | 217 => 51 | 266 => 53 | n => n, fun | 9 => 9 | 5 => 5 | 3 => 3 | n => n, fun | n => n⟩
theorem Tryd.lays137 : Go.Proofs.Lays.n137 Tryd.prog Tryd.lays137_ren := {
  mixed := by kernel_rfl
  f137 := Tryd.func41.trans (congrArg some (by kernel_rfl))
  f217 := Tryd.func51.trans (congrArg some (by kernel_rfl))
  f266 := Tryd.func53.trans (congrArg some (by kernel_rfl))
  t3 := Tryd.underlying3
  a3 := Tryd.isAgg3
  z3 := Tryd.sizeOf3
  v3 := Tryd.zeroValue3
  t5 := Tryd.underlying5
  a5 := Tryd.isAgg5
  z5 := Tryd.sizeOf5
  v5 := Tryd.zeroValue5
  t9 := Tryd.underlying9
  a9 := Tryd.isAgg9
  z9 := Tryd.sizeOf9
  v9 := Tryd.zeroValue9 }
open Go.RowKit in
theorem Tryd.strings_IndexByte (s : ByteArray) (c : Int) (w : World) :
    Calls Tryd.prog 41 #[.string s, .int .u8 c] w fun e w' => e = .returned (.int .i64 (Lib.indexByte s.data.toList c.toNat.toUInt8)) ∧ w' = w := Any.strings_IndexByte Tryd.lays137 s c w
def Tryd.laysGw15_ren : Go.Shelf.Ren := ⟨fun | 15 => 20 | 20 => 27 | n => n, fun | 9 => 9 | 23 => 37 | 3 => 3 | 4 => 4 | 0 => 0 | 21 => 21 | n => n, fun | n => n⟩
theorem Tryd.laysGw15 : Go.Proofs.LaysGw.n15 Tryd.prog Tryd.laysGw15_ren := {
  mixed := by kernel_rfl
  f15 := Tryd.func20.trans (congrArg some (by kernel_rfl))
  f20 := Tryd.func27.trans (congrArg some (by kernel_rfl))
  t0 := Tryd.underlying0
  a0 := Tryd.isAgg0
  z0 := Tryd.sizeOf0
  v0 := Tryd.zeroValue0
  i0 := by kernel_rfl
  t3 := Tryd.underlying3
  a3 := Tryd.isAgg3
  z3 := Tryd.sizeOf3
  v3 := Tryd.zeroValue3
  i3 := by kernel_rfl
  t4 := Tryd.underlying4
  a4 := Tryd.isAgg4
  z4 := Tryd.sizeOf4
  v4 := Tryd.zeroValue4
  i4 := by kernel_rfl
  t9 := Tryd.underlying9
  a9 := Tryd.isAgg9
  z9 := Tryd.sizeOf9
  v9 := Tryd.zeroValue9
  i9 := by kernel_rfl
  t21 := Tryd.underlying21
  a21 := Tryd.isAgg21
  z21 := Tryd.sizeOf21
  v21 := Tryd.zeroValue21
  i21 := by kernel_rfl
  t23 := Tryd.underlying37
  a23 := Tryd.isAgg37
  z23 := Tryd.sizeOf37
  v23 := Tryd.zeroValue37
  i23 := by kernel_rfl }
def Tryd.laysGw17_ren : Go.Shelf.Ren := ⟨fun | 17 => 22 | 15 => 20 | 20 => 27 | n => n, fun | 9 => 9 | 23 => 37 | 4 => 4 | 3 => 3 | 0 => 0 | 21 => 21 | n => n, fun | n => n⟩
theorem Tryd.laysGw17 : Go.Proofs.LaysGw.n17 Tryd.prog Tryd.laysGw17_ren := {
  mixed := by kernel_rfl
  f15 := Tryd.func20.trans (congrArg some (by kernel_rfl))
  f17 := Tryd.func22.trans (congrArg some (by kernel_rfl))
  f20 := Tryd.func27.trans (congrArg some (by kernel_rfl))
  t0 := Tryd.underlying0
  a0 := Tryd.isAgg0
  z0 := Tryd.sizeOf0
  v0 := Tryd.zeroValue0
  i0 := by kernel_rfl
  t3 := Tryd.underlying3
  a3 := Tryd.isAgg3
  z3 := Tryd.sizeOf3
  v3 := Tryd.zeroValue3
  i3 := by kernel_rfl
  t4 := Tryd.underlying4
  a4 := Tryd.isAgg4
  z4 := Tryd.sizeOf4
  v4 := Tryd.zeroValue4
  i4 := by kernel_rfl
  t9 := Tryd.underlying9
  a9 := Tryd.isAgg9
  z9 := Tryd.sizeOf9
  v9 := Tryd.zeroValue9
  i9 := by kernel_rfl
  t21 := Tryd.underlying21
  a21 := Tryd.isAgg21
  z21 := Tryd.sizeOf21
  v21 := Tryd.zeroValue21
  i21 := by kernel_rfl
  t23 := Tryd.underlying37
  a23 := Tryd.isAgg37
  z23 := Tryd.sizeOf37
  v23 := Tryd.zeroValue37
  i23 := by kernel_rfl }
def Tryd.lays155_ren : Go.Shelf.Ren := ⟨fun | 155 => 25 | 154 => 30 | 138 => 36 | 165 => 31 | 143 => 37 | 166 => 32 | 197 => 38 | 169 => 33 | 195 => 45 | 218 => 46 | 240 => 39 | 241 => 40 | 219 => 47 | 260 => 48 | 276 => 49 | 277 => 50 | 217 => 51 | 225 => 44 | 224 => 43 | 267 => 52 | 266 => 53 | 314 => 54 | n => n, fun | 9 => 9 | 3 => 3 | 4 => 4 | 72 => 47 | 0 => 0 | 76 => 51 | 105 => 56 | 21 => 21 | 5 => 5 | 70 => 45 | 20 => 20 | 37 => 33 | 75 => 50 | 127 => 58 | 164 => 63 | 46 => 61 | 119 => 66 | 139 => 69 | 138 => 68 | 146 => 71 | 51 => 70 | 80 => 53 | n => n, fun | 1 => 0 | 3 => 1 | 4 => 2 | n => n⟩
theorem Tryd.lays155 : Go.Proofs.Lays.n155 Tryd.prog Tryd.lays155_ren := {
  mixed := by kernel_rfl
  f138 := Tryd.func36.trans (congrArg some (by kernel_rfl))
  f143 := Tryd.func37.trans (congrArg some (by kernel_rfl))
  f154 := Tryd.func30.trans (congrArg some (by kernel_rfl))
  f155 := Tryd.func25.trans (congrArg some (by kernel_rfl))
  f165 := Tryd.func31.trans (congrArg some (by kernel_rfl))
  f166 := Tryd.func32.trans (congrArg some (by kernel_rfl))
  f169 := Tryd.func33.trans (congrArg some (by kernel_rfl))
  f195 := Tryd.func45.trans (congrArg some (by kernel_rfl))
  f197 := Tryd.func38.trans (congrArg some (by kernel_rfl))
  f217 := Tryd.func51.trans (congrArg some (by kernel_rfl))
  f218 := Tryd.func46.trans (congrArg some (by kernel_rfl))
  f219 := Tryd.func47.trans (congrArg some (by kernel_rfl))
  f224 := Tryd.func43.trans (congrArg some (by kernel_rfl))
  f225 := Tryd.func44.trans (congrArg some (by kernel_rfl))
  f240 := Tryd.func39.trans (congrArg some (by kernel_rfl))
  f241 := Tryd.func40.trans (congrArg some (by kernel_rfl))
  f260 := Tryd.func48.trans (congrArg some (by kernel_rfl))
  f266 := Tryd.func53.trans (congrArg some (by kernel_rfl))
  f267 := Tryd.func52.trans (congrArg some (by kernel_rfl))
  f276 := Tryd.func49.trans (congrArg some (by kernel_rfl))
  f277 := Tryd.func50.trans (congrArg some (by kernel_rfl))
  f314 := Tryd.func54.trans (congrArg some (by kernel_rfl))
  t0 := Tryd.underlying0
  a0 := Tryd.isAgg0
  z0 := Tryd.sizeOf0
  v0 := Tryd.zeroValue0
  t3 := Tryd.underlying3
  a3 := Tryd.isAgg3
  z3 := Tryd.sizeOf3
  v3 := Tryd.zeroValue3
  t4 := Tryd.underlying4
  a4 := Tryd.isAgg4
  z4 := Tryd.sizeOf4
  v4 := Tryd.zeroValue4
  t5 := Tryd.underlying5
  a5 := Tryd.isAgg5
  z5 := Tryd.sizeOf5
  v5 := Tryd.zeroValue5
  t9 := Tryd.underlying9
  a9 := Tryd.isAgg9
  z9 := Tryd.sizeOf9
  v9 := Tryd.zeroValue9
  t20 := Tryd.underlying20
  a20 := Tryd.isAgg20
  z20 := Tryd.sizeOf20
  v20 := Tryd.zeroValue20
  t21 := Tryd.underlying21
  a21 := Tryd.isAgg21
  z21 := Tryd.sizeOf21
  v21 := Tryd.zeroValue21
  t37 := Tryd.underlying33
  a37 := Tryd.isAgg33
  z37 := Tryd.sizeOf33
  v37 := Tryd.zeroValue33
  t46 := Tryd.underlying61
  a46 := Tryd.isAgg61
  z46 := Tryd.sizeOf61
  v46 := Tryd.zeroValue61
  t51 := Tryd.underlying70
  a51 := Tryd.isAgg70
  z51 := Tryd.sizeOf70
  v51 := Tryd.zeroValue70
  t70 := Tryd.underlying45
  a70 := Tryd.isAgg45
  z70 := Tryd.sizeOf45
  v70 := Tryd.zeroValue45
  t72 := Tryd.underlying47
  a72 := Tryd.isAgg47
  z72 := Tryd.sizeOf47
  v72 := Tryd.zeroValue47
  t75 := Tryd.underlying50
  a75 := Tryd.isAgg50
  z75 := Tryd.sizeOf50
  v75 := Tryd.zeroValue50
  t76 := Tryd.underlying51
  a76 := Tryd.isAgg51
  z76 := Tryd.sizeOf51
  v76 := Tryd.zeroValue51
  t105 := Tryd.underlying56
  a105 := Tryd.isAgg56
  z105 := Tryd.sizeOf56
  v105 := Tryd.zeroValue56
  t119 := Tryd.underlying66
  a119 := Tryd.isAgg66
  z119 := Tryd.sizeOf66
  t127 := Tryd.underlying58
  a127 := Tryd.isAgg58
  z127 := Tryd.sizeOf58
  v127 := Tryd.zeroValue58
  t138 := Tryd.underlying68
  a138 := Tryd.isAgg68
  z138 := Tryd.sizeOf68
  v138 := Tryd.zeroValue68
  t139 := Tryd.underlying69
  a139 := Tryd.isAgg69
  z139 := Tryd.sizeOf69
  v139 := Tryd.zeroValue69
  t146 := Tryd.underlying71
  a146 := Tryd.isAgg71
  z146 := Tryd.sizeOf71
  v146 := Tryd.zeroValue71
  t164 := Tryd.underlying63
  a164 := Tryd.isAgg63
  z164 := Tryd.sizeOf63
  v164 := Tryd.zeroValue63
  g1 := by kernel_rfl
  g3 := by kernel_rfl
  g4 := by kernel_rfl }
theorem Tryd.Builder_Extra_155 : Builder.Extra Tryd.prog Tryd.lays155_ren := {
  sizeBuilder := by kernel_rfl
  liesBuilder := by kernel_rfl
  t5 := Tryd.underlying5
  a5 := Tryd.isAgg5
  z5 := Tryd.sizeOf5
  v5 := Tryd.zeroValue5
  infoByte := by kernel_rfl
  cellsByte := by kernel_rfl
  sizeByte := by kernel_rfl
  neB5 := by decide }
open Go.RowKit Go.Lib in
theorem Tryd.strings_ReplaceAll (s old new : ByteArray) (m : Int) (w : World) (hs : s.size < 4294967281) (hm : w.cell? ⟨0, 0, none⟩ = some (.int .i64 m)) (h1 : 1 ≤ old.size) (hlen : s.size + Lib.countB s old * new.size ≤ 140737488355328) :
    Calls Tryd.prog 25 #[.string s, .string old, .string new] w fun e w' =>
      e = .returned (.string ⟨(Lib.replaceAll s.data.toList old.data.toList new.data.toList).toArray⟩) ∧ Below w.heap.size w w' := Any.strings_ReplaceAll Tryd.lays155 Tryd.Builder_Extra_155 s old new m w hs hm h1 hlen
def Tryd.laysM155_ren : Go.Shelf.Ren := ⟨fun | 155 => 25 | 154 => 30 | 138 => 36 | 165 => 31 | 143 => 37 | 166 => 32 | 197 => 38 | 169 => 33 | 195 => 45 | 218 => 46 | 240 => 39 | 241 => 40 | 219 => 47 | 260 => 48 | 276 => 49 | 277 => 50 | 217 => 51 | 225 => 44 | 224 => 43 | 267 => 52 | 266 => 53 | 314 => 54 | n => n, fun | 9 => 9 | 3 => 3 | 4 => 4 | 72 => 47 | 0 => 0 | 76 => 51 | 105 => 56 | 21 => 21 | 5 => 5 | 70 => 45 | 20 => 20 | 37 => 33 | 75 => 50 | 127 => 58 | 164 => 63 | 46 => 61 | 119 => 66 | 139 => 69 | 138 => 68 | 146 => 71 | 51 => 70 | 80 => 53 | n => n, fun | 1 => 0 | 3 => 1 | 4 => 2 | n => n⟩
theorem Tryd.laysM155 : Go.Proofs.LaysM.n155 Tryd.prog Tryd.laysM155_ren := {
  mixed := by kernel_rfl
  f138 := Tryd.func36.trans (congrArg some (by kernel_rfl))
  f143 := Tryd.func37.trans (congrArg some (by kernel_rfl))
  f154 := Tryd.func30.trans (congrArg some (by kernel_rfl))
  f155 := Tryd.func25.trans (congrArg some (by kernel_rfl))
  f165 := Tryd.func31.trans (congrArg some (by kernel_rfl))
  f166 := Tryd.func32.trans (congrArg some (by kernel_rfl))
  f169 := Tryd.func33.trans (congrArg some (by kernel_rfl))
  f195 := Tryd.func45.trans (congrArg some (by kernel_rfl))
  f197 := Tryd.func38.trans (congrArg some (by kernel_rfl))
  f217 := Tryd.func51.trans (congrArg some (by kernel_rfl))
  f218 := Tryd.func46.trans (congrArg some (by kernel_rfl))
  f219 := Tryd.func47.trans (congrArg some (by kernel_rfl))
  f224 := Tryd.func43.trans (congrArg some (by kernel_rfl))
  f225 := Tryd.func44.trans (congrArg some (by kernel_rfl))
  f240 := Tryd.func39.trans (congrArg some (by kernel_rfl))
  f241 := Tryd.func40.trans (congrArg some (by kernel_rfl))
  f260 := Tryd.func48.trans (congrArg some (by kernel_rfl))
  f266 := Tryd.func53.trans (congrArg some (by kernel_rfl))
  f267 := Tryd.func52.trans (congrArg some (by kernel_rfl))
  f276 := Tryd.func49.trans (congrArg some (by kernel_rfl))
  f277 := Tryd.func50.trans (congrArg some (by kernel_rfl))
  f314 := Tryd.func54.trans (congrArg some (by kernel_rfl))
  t0 := Tryd.underlying0
  a0 := Tryd.isAgg0
  z0 := Tryd.sizeOf0
  v0 := Tryd.zeroValue0
  t3 := Tryd.underlying3
  a3 := Tryd.isAgg3
  z3 := Tryd.sizeOf3
  v3 := Tryd.zeroValue3
  t4 := Tryd.underlying4
  a4 := Tryd.isAgg4
  z4 := Tryd.sizeOf4
  v4 := Tryd.zeroValue4
  t5 := Tryd.underlying5
  a5 := Tryd.isAgg5
  z5 := Tryd.sizeOf5
  v5 := Tryd.zeroValue5
  t9 := Tryd.underlying9
  a9 := Tryd.isAgg9
  z9 := Tryd.sizeOf9
  v9 := Tryd.zeroValue9
  t20 := Tryd.underlying20
  a20 := Tryd.isAgg20
  z20 := Tryd.sizeOf20
  v20 := Tryd.zeroValue20
  t21 := Tryd.underlying21
  a21 := Tryd.isAgg21
  z21 := Tryd.sizeOf21
  v21 := Tryd.zeroValue21
  t37 := Tryd.underlying33
  a37 := Tryd.isAgg33
  z37 := Tryd.sizeOf33
  v37 := Tryd.zeroValue33
  t46 := Tryd.underlying61
  a46 := Tryd.isAgg61
  z46 := Tryd.sizeOf61
  v46 := Tryd.zeroValue61
  t51 := Tryd.underlying70
  a51 := Tryd.isAgg70
  z51 := Tryd.sizeOf70
  v51 := Tryd.zeroValue70
  t70 := Tryd.underlying45
  a70 := Tryd.isAgg45
  z70 := Tryd.sizeOf45
  v70 := Tryd.zeroValue45
  t72 := Tryd.underlying47
  a72 := Tryd.isAgg47
  z72 := Tryd.sizeOf47
  v72 := Tryd.zeroValue47
  t75 := Tryd.underlying50
  a75 := Tryd.isAgg50
  z75 := Tryd.sizeOf50
  v75 := Tryd.zeroValue50
  t76 := Tryd.underlying51
  a76 := Tryd.isAgg51
  z76 := Tryd.sizeOf51
  v76 := Tryd.zeroValue51
  t105 := Tryd.underlying56
  a105 := Tryd.isAgg56
  z105 := Tryd.sizeOf56
  v105 := Tryd.zeroValue56
  t119 := Tryd.underlying66
  a119 := Tryd.isAgg66
  z119 := Tryd.sizeOf66
  t127 := Tryd.underlying58
  a127 := Tryd.isAgg58
  z127 := Tryd.sizeOf58
  v127 := Tryd.zeroValue58
  t138 := Tryd.underlying68
  a138 := Tryd.isAgg68
  z138 := Tryd.sizeOf68
  v138 := Tryd.zeroValue68
  t139 := Tryd.underlying69
  a139 := Tryd.isAgg69
  z139 := Tryd.sizeOf69
  v139 := Tryd.zeroValue69
  t146 := Tryd.underlying71
  a146 := Tryd.isAgg71
  z146 := Tryd.sizeOf71
  v146 := Tryd.zeroValue71
  t164 := Tryd.underlying63
  a164 := Tryd.isAgg63
  z164 := Tryd.sizeOf63
  v164 := Tryd.zeroValue63
  g1 := by kernel_rfl
  g3 := by kernel_rfl
  g4 := by kernel_rfl
  t80 := Tryd.underlying53
  a80 := Tryd.isAgg53
  z80 := Tryd.sizeOf53
  v80 := Tryd.zeroValue53
  i0 := by kernel_rfl
  i3 := by kernel_rfl
  i4 := by kernel_rfl
  i5 := by kernel_rfl
  i9 := by kernel_rfl
  i20 := by kernel_rfl
  i21 := by kernel_rfl
  i37 := by kernel_rfl
  i46 := by kernel_rfl
  i51 := by kernel_rfl
  i70 := by kernel_rfl
  i72 := by kernel_rfl
  i75 := by kernel_rfl
  i76 := by kernel_rfl
  i80 := by kernel_rfl
  i105 := by kernel_rfl
  i127 := by kernel_rfl
  i138 := by kernel_rfl
  i139 := by kernel_rfl
  i146 := by kernel_rfl
  i164 := by kernel_rfl
  m1 := by kernel_rfl
  s1_3 := fun w h => Go.Proofs.cell_of_shapedOpen_int (zero := #[.int .i64 0]) (t := 3) h (of_decide_eq_true (by kernel_rfl)) (by kernel_rfl) rfl (by kernel_rfl) (by kernel_rfl) Tryd.underlying3
  m3 := by kernel_rfl
  m4 := by kernel_rfl }
theorem Tryd.Builder_Extra_M155 : Builder.Extra Tryd.prog Tryd.laysM155_ren := {
  sizeBuilder := by kernel_rfl
  liesBuilder := by kernel_rfl
  t5 := Tryd.underlying5
  a5 := Tryd.isAgg5
  z5 := Tryd.sizeOf5
  v5 := Tryd.zeroValue5
  infoByte := by kernel_rfl
  cellsByte := by kernel_rfl
  sizeByte := by kernel_rfl
  neB5 := by decide }
open Go.RowKit Go.Lib in
theorem Tryd.strings_ReplaceAll_shaped (s old new : ByteArray) (w : World) (h : w.ShapedOpen Tryd.prog) (hs : s.size < 4294967281) (h1 : 1 ≤ old.size) (hlen : s.size + Lib.countB s old * new.size ≤ 140737488355328) :
    Calls Tryd.prog 25 #[.string s, .string old, .string new] w fun e w' =>
      e = .returned (.string ⟨(Lib.replaceAll s.data.toList old.data.toList new.data.toList).toArray⟩) ∧ Below w.heap.size w w' := Any.strings_ReplaceAll_shaped Tryd.laysM155 Tryd.Builder_Extra_M155 s old new w h hs h1 hlen
def Tryd.lays151_ren : Go.Shelf.Ren := ⟨fun | 151 => 28 | 152 => 34 | 137 => 41 | 119 => 42 | 224 => 43 | 225 => 44 | 217 => 51 | 266 => 53 | n => n, fun | 9 => 9 | 21 => 21 | 4 => 4 | 3 => 3 | 5 => 5 | 0 => 0 | 46 => 61 | n => n, fun | n => n⟩
theorem Tryd.lays151 : Go.Proofs.Lays.n151 Tryd.prog Tryd.lays151_ren := {
  mixed := by kernel_rfl
  f119 := Tryd.func42.trans (congrArg some (by kernel_rfl))
  f137 := Tryd.func41.trans (congrArg some (by kernel_rfl))
  f151 := Tryd.func28.trans (congrArg some (by kernel_rfl))
  f152 := Tryd.func34.trans (congrArg some (by kernel_rfl))
  f217 := Tryd.func51.trans (congrArg some (by kernel_rfl))
  f224 := Tryd.func43.trans (congrArg some (by kernel_rfl))
  f225 := Tryd.func44.trans (congrArg some (by kernel_rfl))
  f266 := Tryd.func53.trans (congrArg some (by kernel_rfl))
  t0 := Tryd.underlying0
  a0 := Tryd.isAgg0
  z0 := Tryd.sizeOf0
  v0 := Tryd.zeroValue0
  t3 := Tryd.underlying3
  a3 := Tryd.isAgg3
  z3 := Tryd.sizeOf3
  v3 := Tryd.zeroValue3
  t4 := Tryd.underlying4
  a4 := Tryd.isAgg4
  z4 := Tryd.sizeOf4
  v4 := Tryd.zeroValue4
  t5 := Tryd.underlying5
  a5 := Tryd.isAgg5
  z5 := Tryd.sizeOf5
  v5 := Tryd.zeroValue5
  t9 := Tryd.underlying9
  a9 := Tryd.isAgg9
  z9 := Tryd.sizeOf9
  v9 := Tryd.zeroValue9
  t21 := Tryd.underlying21
  a21 := Tryd.isAgg21
  z21 := Tryd.sizeOf21
  v21 := Tryd.zeroValue21
  t46 := Tryd.underlying61
  a46 := Tryd.isAgg61
  z46 := Tryd.sizeOf61
  v46 := Tryd.zeroValue61 }
open Go.RowKit Go.Lib in
theorem Tryd.strings_ContainsRune_ascii (s : ByteArray) (r : Int) (w : World) (h0 : 0 ≤ r) (h1 : r < 128) :
    Calls Tryd.prog 28 #[.string s, .int .i32 r] w fun e w' => e = .returned (.bool (decide (0 ≤ Lib.indexByte s.data.toList r.toNat.toUInt8))) ∧ w' = w := Any.strings_ContainsRune_ascii Tryd.lays151 s r w h0 h1
open Go.RowKit Go.Lib in
theorem Tryd.strings_IndexFunc_grows (g : Nat) (lb : Array Value) (eg : ∀ args w, (callFunc g args).run Tryd.prog w = .ok (.enter g args) w) (p : Nat → Bool) (s : ByteArray) (w : World) (hp : PredGrows Tryd.prog g lb p w) :
    Calls Tryd.prog 20 #[.string s, .func (.func g) #[] lb] w fun e w' => e = .returned (.int .i64 (Lib.idxFunc p true s)) ∧ Below w.heap.size w w' := Any.strings_IndexFunc_grows Tryd.laysGw15 g lb eg p s w hp
open Go.RowKit Go.Lib in
theorem Tryd.strings_ContainsFunc_grows (g : Nat) (lb : Array Value) (eg : ∀ args w, (callFunc g args).run Tryd.prog w = .ok (.enter g args) w) (p : Nat → Bool) (s : ByteArray) (w : World) (hp : PredGrows Tryd.prog g lb p w) :
    Calls Tryd.prog 22 #[.string s, .func (.func g) #[] lb] w fun e w' => e = .returned (.bool (decide (0 ≤ Lib.idxFunc p true s))) ∧ Below w.heap.size w w' := Any.strings_ContainsFunc_grows Tryd.laysGw17 g lb eg p s w hp
end Go.Proofs
