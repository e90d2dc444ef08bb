/-
  THE SMALL FUNCTIONS of seat b6600464aD, each by its contract.
-/
import Derived.Test.Qxb6600464aDoorProg
import Derived.Test.Qxb6600464aDoorPlain
import Derived.Test.Qxb6600464aDoorRowLaws
import Derived.WalkKit
namespace Go.Proofs.Qxb6600464aDoor
open Go.RowKit Sw

/-- internal/shellwords.control -/
def ctlR (r : Int) : Bool := decide (r < 32) || r == 127
theorem control_any (r : Int) (w : World) : Calls Tryd.prog 23 #[.int .i32 r] w fun e w' => e = .returned (.bool (ctlR r)) ∧ w' = w := by
  by_cases h : r < 32
  · go_enter Tryd.func23, Tryd.ntmps23
    go_wp2
    go_ret
    exact ⟨by simp [ctlR, h], rfl⟩
  · have hd : decide (r < 32) = false := by simpa using h
    go_enter Tryd.func23, Tryd.ntmps23
    go_wp2
    go_ret
    exact ⟨by simp [ctlR, hd], rfl⟩

/-- zzControlByte -/
theorem zzControl_any (c : UInt8) (w : World) : Calls Tryd.prog 17 #[.int .u8 (c.toNat : Int)] w fun e w' => e = .returned (.bool (ctlB c)) ∧ w' = w := by
  have e : ctlB c = (decide ((c.toNat : Int) < 32) || ((c.toNat : Int) == 127)) := by
    unfold ctlB
    rw [Bool.eq_iff_iff]
    simp [UInt8.lt_iff_toNat_lt, ← UInt8.toNat_inj]
    omega
  rw [e]
  by_cases h : (c.toNat : Int) < 32
  · go_enter Tryd.func17, Tryd.ntmps17
    go_wp2
    go_ret
    exact ⟨by simp [h], rfl⟩
  · have hd : decide ((c.toNat : Int) < 32) = false := by simpa using h
    go_enter Tryd.func17, Tryd.ntmps17
    go_wp2
    go_ret
    exact ⟨by simp, rfl⟩

/-- the bound on the length, laid by program -/
theorem bytes16_any (s : ByteArray) (w : World) (hs : s.size ≤ maxLen) : Calls Tryd.prog 16 #[.string s] w fun e w' => e = .returned (.bool (decide (s.size ≤ 1048576))) ∧ w' = w := by
  unfold maxLen at hs
  by_cases h : s.size ≤ 1048576
  · go_enter Tryd.func16, Tryd.ntmps16
    go_wp2
    go_ret
    exact ⟨by simp [h], rfl⟩
  · go_enter Tryd.func16, Tryd.ntmps16
    go_wp2
    go_ret
    exact ⟨by simp [h], rfl⟩
theorem bytes7_any (s : ByteArray) (w : World) (hs : s.size ≤ maxLen) : Calls Tryd.prog 7 #[.string s] w fun e w' => e = .returned (.bool (decide (s.size ≤ 1048576))) ∧ w' = w := by
  unfold maxLen at hs
  by_cases h : s.size ≤ 1048576
  · go_enter Tryd.func7, Tryd.ntmps7
    go_wp2
    go_ret
    exact ⟨by simp [h], rfl⟩
  · go_enter Tryd.func7, Tryd.ntmps7
    go_wp2
    go_ret
    exact ⟨by simp [h], rfl⟩

theorem Tryd.info5 : (Tryd.prog.info? 5).map (fun i => (i.zero, i.size, i.bytes)) = some (some (.int .u8 0), 1, 1) := by kernel_rfl
theorem Tryd.info9 : (Tryd.prog.info? 9).map (fun i => (i.zero, i.size, i.bytes)) = some (some (.string ⟨#[]⟩), 1, 16) := by kernel_rfl


theorem u8_48 (n : Nat) (h : n < 200) : ((UInt8.ofNat (48 + n)).toNat : Int) = 48 + (n : Int) := by
  rw [UInt8.toNat_ofNat_of_lt' (by simp [UInt8.size]; omega)]
  omega
theorem and7 (n : Nat) (h : n < 256) : bits .and .u8 (n : Int) 7 = ((n % 8 : Nat) : Int) := by
  revert n
  decide +kernel
def octs (c : UInt8) : List UInt8 := [92, UInt8.ofNat (48 + c.toNat / 64), UInt8.ofNat (48 + c.toNat / 8 % 8), UInt8.ofNat (48 + c.toNat % 8)]
theorem octs_length (c : UInt8) : (octs c).length = 4 := rfl
theorem octs_cells (c : UInt8) : bcs (octs c) = [.int .u8 92, .int .u8 (48 + (c.toNat : Int) / 64), .int .u8 (48 + (c.toNat : Int) / 8 % 8), .int .u8 (48 + (c.toNat : Int) % 8)] := by
  have hc := c.toNat_lt
  simp only [bcs, octs, List.map_cons, List.map_nil]
  rw [u8_48 _ (by omega), u8_48 _ (by omega), u8_48 _ (by omega)]
  rfl

/-- AppendOctal -/
theorem octal_any (B n : Nat) (v : Value) (l : List UInt8) (c : UInt8) (w : World) (hown : w.ownsRow B 5 1 v n (bcs l)) (hB : B ≤ w.heap.size) (hn : n ≤ 100000000) :
    Calls Tryd.prog 35 #[v, .int .u8 (c.toNat : Int)] w fun e w' => ∃ v', e = .returned v' ∧ w'.ownsRow B 5 1 v' (n + 4) (bcs (l ++ octs c)) ∧ Below B w w' := by
  have hc : c.toNat < 256 := c.toNat_lt
  have hx : bits .and .u8 ((c.toNat : Int) / 8) 7 = (c.toNat : Int) / 8 % 8 := by
    have := and7 (c.toNat / 8) (by omega)
    exact this
  have hy : bits .and .u8 (c.toNat : Int) 7 = (c.toNat : Int) % 8 := by
    have := and7 c.toNat (by omega)
    exact this
  go_enter Tryd.func35, Tryd.ntmps35
  go_wp2_with (at_builtin; refine wpList_appB (P := Tryd.prog) Tryd.underlying33 Tryd.info5 w rfl _ _ rfl B v n l rfl hown hB _ (octs c) ?hcs 4 (octs_length c).symm rfl (by omega) ?_)
  case hcs => rw [octs_cells]
  intro v' w' h1 h2 h3
  go_wp2
  go_ret
  exact ⟨_, rfl, h1, h2⟩
end Go.Proofs.Qxb6600464aDoor
