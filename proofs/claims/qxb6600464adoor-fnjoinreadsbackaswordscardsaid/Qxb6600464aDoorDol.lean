/-
  zzSafeByte and zzDollarEscape, each at what Quote writes.
-/
import Derived.Test.Qxb6600464aDoorEsc
import Derived.Deep.LoopGhost
namespace Go.Proofs.Qxb6600464aDoor
open Go.RowKit Sw

theorem safe_cases (c : UInt8) (h : safeB c = true) : (97 ≤ c.toNat ∧ c.toNat ≤ 122) ∨ (65 ≤ c.toNat ∧ c.toNat ≤ 90) ∨ (48 ≤ c.toNat ∧ c.toNat ≤ 57) ∨ c = 64 ∨ c = 37 ∨ c = 43 ∨ c = 61 ∨ c = 58 ∨ c = 44 ∨ c = 46 ∨ c = 47 ∨ c = 95 ∨ c = 45 := by
  unfold safeB safeSet at h
  simp only [Bool.or_eq_true, Bool.and_eq_true, decide_eq_true_eq, List.contains_cons, List.contains_nil, beq_iff_eq, UInt8.le_iff_toNat_le, Bool.false_eq_true, or_false] at h
  rcases h with ((h | h) | h) | h
  · exact .inl h
  · exact .inr (.inl h)
  · exact .inr (.inr (.inl h))
  · exact .inr (.inr (.inr h))

set_option maxHeartbeats 1000000 in
theorem zzSafe_yes (c : UInt8) (w : World) (h : safeB c = true) : Calls Tryd.prog 19 #[.int .u8 (c.toNat : Int)] w fun e w' => e = .returned (.bool true) ∧ w' = w := by
  have hc : c.toNat < 256 := c.toNat_lt
  rcases safe_cases c h with h | h | h | rfl | rfl | rfl | rfl | rfl | rfl | rfl | rfl | rfl | rfl
  · have h1 : (97 : Int) ≤ (c.toNat : Int) := by omega
    have h2 : (c.toNat : Int) ≤ 122 := by omega
    clear h
    go_enter Tryd.func19, Tryd.ntmps19
    go_wp2
    go_ret
    exact ⟨rfl, rfl⟩
  · have h1 : decide ((97 : Int) ≤ (c.toNat : Int)) = false := by simp; omega
    have h2 : (65 : Int) ≤ (c.toNat : Int) := by omega
    have h3 : (c.toNat : Int) ≤ 90 := by omega
    clear h
    go_enter Tryd.func19, Tryd.ntmps19
    go_wp2
    go_ret
    exact ⟨rfl, rfl⟩
  · have h1 : decide ((97 : Int) ≤ (c.toNat : Int)) = false := by simp; omega
    have h2 : decide ((65 : Int) ≤ (c.toNat : Int)) = false := by simp; omega
    have h3 : (48 : Int) ≤ (c.toNat : Int) := by omega
    have h4 : (c.toNat : Int) ≤ 57 := by omega
    clear h
    go_enter Tryd.func19, Tryd.ntmps19
    go_wp2
    go_ret
    exact ⟨rfl, rfl⟩
  all_goals
    clear h hc
    go_enter Tryd.func19, Tryd.ntmps19
    go_wp2
    go_ret
    exact ⟨rfl, rfl⟩

set_option maxHeartbeats 1000000 in
theorem dollar_self (s : ByteArray) (p : Nat) (w : World) (hp : p < s.size) (h : s[p].toNat = 92 ∨ s[p].toNat = 39) :
    Calls Tryd.prog 18 #[.string s, .int .i64 (p : Int)] w fun e w' => e = .returned (.tuple #[.int .u8 (s[p].toNat : Int), .int .i64 1, .bool true]) ∧ w' = w := by
  rcases h with h | h
  · have h0 : ((s[p].toNat : Int) == 92) = true := by rw [beq_iff_eq]; omega
    clear h
    go_enter Tryd.func18, Tryd.ntmps18
    go_wp2
    go_ret3
    exact ⟨rfl, rfl⟩
  · have h1 : ((s[p].toNat : Int) == 92) = false := by rw [beq_eq_false_iff_ne]; omega
    have h0 : ((s[p].toNat : Int) == 39) = true := by rw [beq_iff_eq]; omega
    clear h
    go_enter Tryd.func18, Tryd.ntmps18
    go_wp2
    go_ret3
    exact ⟨rfl, rfl⟩

set_option maxHeartbeats 1000000 in
theorem dollar_letter (s : ByteArray) (p : Nat) (w : World) (hp : p < s.size) (c : UInt8) (h : (s[p].toNat, c) ∈ ([(97, 7), (98, 8), (116, 9), (110, 10), (118, 11), (102, 12), (114, 13)] : List (Nat × UInt8))) :
    Calls Tryd.prog 18 #[.string s, .int .i64 (p : Int)] w fun e w' => e = .returned (.tuple #[.int .u8 (c.toNat : Int), .int .i64 1, .bool true]) ∧ w' = w := by
  simp only [List.mem_cons, Prod.mk.injEq, List.mem_nil_iff, or_false] at h
  rcases h with ⟨h, rfl⟩ | ⟨h, rfl⟩ | ⟨h, rfl⟩ | ⟨h, rfl⟩ | ⟨h, rfl⟩ | ⟨h, rfl⟩ | ⟨h, rfl⟩
  all_goals
    go_enter Tryd.func18, Tryd.ntmps18
    go_wp2
    go_ret3
    exact ⟨rfl, rfl⟩

def ov (d : Nat → Nat) : Nat → Nat
  | 0 => 0
  | k + 1 => ov d k * 8 + d k

set_option maxHeartbeats 1000000 in
theorem dollar_octal (s : ByteArray) (p : Nat) (w : World) (hs : s.size ≤ 100000000) (hp : p + 2 < s.size) (d : Nat → Nat) (l0 : d 0 ≤ 3) (l1 : d 1 ≤ 7) (l2 : d 2 ≤ 7)
    (h0 : s[p].toNat = 48 + d 0) (h1 : s[p + 1].toNat = 48 + d 1) (h2 : s[p + 2].toNat = 48 + d 2) :
    Calls Tryd.prog 18 #[.string s, .int .i64 (p : Int)] w fun e w' => e = .returned (.tuple #[.int .u8 (ov d 3 : Nat), .int .i64 3, .bool true]) ∧ w' = w := by
  have hp0 : p < s.size := by omega
  have hov : ∀ k, k ≤ 3 → ov d k ≤ 255 := by
    intro k hk
    rcases (show k = 0 ∨ k = 1 ∨ k = 2 ∨ k = 3 by omega) with rfl | rfl | rfl | rfl <;> simp only [ov] <;> omega
  have hk8 : ∀ k (hk : k < 3), s[p + k].toNat = 48 + d k ∧ d k ≤ 7 := by
    intro k hk
    rcases (show k = 0 ∨ k = 1 ∨ k = 2 by omega) with rfl | rfl | rfl
    · exact ⟨h0, by omega⟩
    · exact ⟨h1, l1⟩
    · exact ⟨h2, l2⟩
  have HV := show Hid _ from hov
  have HK := show Hid _ from hk8
  obtain ⟨d0, hd0, hl0⟩ : ∃ d0, s[p].toNat = 48 + d0 ∧ d0 ≤ 3 := ⟨d 0, h0, l0⟩
  clear hov hk8 h0 h1 h2 l0 l1 l2
  have t0 : ((48 + (d0 : Int)) == 92) = false := beq_eq_false_iff_ne.2 (by omega)
  have t1 : ((48 + (d0 : Int)) == 39) = false := beq_eq_false_iff_ne.2 (by omega)
  have t2 : ((48 + (d0 : Int)) == 34) = false := beq_eq_false_iff_ne.2 (by omega)
  have t3 : ((48 + (d0 : Int)) == 97) = false := beq_eq_false_iff_ne.2 (by omega)
  have t4 : ((48 + (d0 : Int)) == 98) = false := beq_eq_false_iff_ne.2 (by omega)
  have t5 : ((48 + (d0 : Int)) == 116) = false := beq_eq_false_iff_ne.2 (by omega)
  have t6 : ((48 + (d0 : Int)) == 110) = false := beq_eq_false_iff_ne.2 (by omega)
  have t7 : ((48 + (d0 : Int)) == 118) = false := beq_eq_false_iff_ne.2 (by omega)
  have t8 : ((48 + (d0 : Int)) == 102) = false := beq_eq_false_iff_ne.2 (by omega)
  have t9 : ((48 + (d0 : Int)) == 114) = false := beq_eq_false_iff_ne.2 (by omega)
  go_enter Tryd.func18, Tryd.ntmps18
  go_wp2
  go_loopg [8, 9] 3 (fun g v i wr => ∃ k : Nat, k + g = 3 ∧ i = .int .i64 k ∧ v = .int .i64 (ov d k) ∧ wr = w)
  case atStart => exact ⟨0, by omega, rfl, rfl, rfl⟩
  case round =>
    obtain ⟨k, hk, rfl, rfl, rfl⟩ := hrel
    have hb := HV.out k (by omega)
    by_cases hlt : k < 3
    · obtain ⟨hs1, hl1⟩ := HK.out k hlt
      have hpk : p + k < s.size := by omega
      have HG : Hid (k + gk = 3) := hk
      clear hk
      go_wp2
      go_roundg (2 - k)
      case measure => have := HG.out; omega
      case rel => exact ⟨k + 1, by have := HG.out; omega, by go_num, by simp only [ov]; congr 1; omega, rfl⟩
    · obtain rfl : k = 3 := by omega
      clear hk
      go_wp2
      go_ret3
      exact ⟨rfl, rfl⟩
end Go.Proofs.Qxb6600464aDoor
