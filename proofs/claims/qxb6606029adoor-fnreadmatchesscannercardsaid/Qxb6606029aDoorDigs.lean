/-
  Digits: isDigit, allDigits, digitsOnly, by their contracts.
-/
import Derived.Test.Qxb6606029aDoorProg
import Derived.Test.Qxb6606029aDoorShelf
import Derived.Test.Qxb6606029aDoorNum
import Derived.WalkKit
import Derived.Deep.LoopGhost
import Derived.Deep.QuietTactic
import Derived.BigQuiet
import Derived.Deep.DeepFit
import Derived.Lib.Hide
namespace Go.Proofs.Qxb6606029aDoor
open Go.RowKit

theorem drop_at (s : ByteArray) (p : Nat) (hp : p < s.size) : s.data.toList.drop p = s[p] :: s.data.toList.drop (p + 1) := by
  have h : p < s.data.toList.length := by simpa using hp
  rw [List.drop_eq_getElem_cons h]
  rfl
theorem drop_end (s : ByteArray) (p : Nat) (hp : ¬ p < s.size) : s.data.toList.drop p = [] := List.drop_of_length_le (by simp; omega)
theorem below_drewN (w : World) : ∀ n, Below w.heap.size w (w.drewN n)
  | 0 => Below.refl _ _
  | n + 1 => (below_drewN w n).drew

theorem isDigit_any (c : UInt8) (w : World) : Calls Tryd.prog 32 #[.int .u8 c.toNat] w fun e w' => e = .returned (.bool (dig c)) ∧ w' = w := by
  have hd : dig c = (decide (48 ≤ c.toNat) && decide (c.toNat ≤ 57)) := rfl
  by_cases h1 : 48 ≤ c.toNat
  · have g1 : decide ((48 : Int) ≤ (c.toNat : Int)) = true := decide_eq_true (by omega)
    by_cases h2 : c.toNat ≤ 57
    · have g2 : decide ((c.toNat : Int) ≤ 57) = true := decide_eq_true (by omega)
      have hr : dig c = true := by rw [hd, decide_eq_true h1, decide_eq_true h2]; rfl
      rw [hr]; clear hd
      go_enter Tryd.func32, Tryd.ntmps32
      go_wp2_with fail
      go_ret
      exact ⟨rfl, rfl⟩
    · have g2 : decide ((c.toNat : Int) ≤ 57) = false := decide_eq_false (by omega)
      have hr : dig c = false := by rw [hd, decide_eq_true h1, decide_eq_false h2]; rfl
      rw [hr]; clear hd
      go_enter Tryd.func32, Tryd.ntmps32
      go_wp2_with fail
      go_ret
      exact ⟨rfl, rfl⟩
  · have g1 : decide ((48 : Int) ≤ (c.toNat : Int)) = false := decide_eq_false (by omega)
    have hr : dig c = false := by rw [hd, decide_eq_false h1]; rfl
    rw [hr]; clear hd
    go_enter Tryd.func32, Tryd.ntmps32
    go_wp2_with fail
    go_ret
    exact ⟨rfl, rfl⟩

theorem allDigits_any (s : ByteArray) (w : World) (hs : s.size ≤ 100000000) :
    Calls Tryd.prog 19 #[.string s] w fun e w' => e = .returned (.bool (digs s.data.toList)) ∧ w' = w := by
  go_enter Tryd.func19, Tryd.ntmps19
  go_wp2_with fail
  go_loopg [3] s.size (fun g vi wr => ∃ i : Nat, vi = .int .i64 i ∧ i + g = s.size ∧ wr = w ∧ digs (s.data.toList.drop i) = digs s.data.toList)
  case atStart => exact ⟨0, rfl, by omega, rfl, rfl⟩
  case round =>
    obtain ⟨i, rfl, hig, rfl, hd⟩ := hrel
    have HD : Hid _ := hd
    clear hd
    by_cases hi : i < s.size
    · obtain ⟨x, hx⟩ : ∃ x, s[i] = x := ⟨_, rfl⟩
      have hds := drop_at s i hi
      rw [hx] at hds
      have HDS : Hid _ := hds
      clear hds
      cases hdx : dig x with
      | false =>
        have hc := isDigit_any x wr
        rw [hdx] at hc
        have hr : digs s.data.toList = false := by
          rw [← HD.out, HDS.out]
          show (dig x && _) = false
          rw [hdx]
          rfl
        have HRR : Hid _ := hr
        clear hdx hr
        go_wp2_with (first | (go_at_call 32; go_fit hc; rintro e w1 ⟨rfl, rfl⟩) | fail)
        go_ret
        exact ⟨by rw [HRR.out]; rfl, rfl⟩
      | true =>
        have hc := isDigit_any x wr
        rw [hdx] at hc
        have hr : digs (s.data.toList.drop (i + 1)) = digs s.data.toList := by
          rw [← HD.out, HDS.out]
          show _ = (dig x && _)
          rw [hdx]
          rfl
        have HR : Hid _ := hr
        clear hdx hr
        go_wp2_with (first | (go_at_call 32; go_fit hc; rintro e w1 ⟨rfl, rfl⟩) | fail)
        go_roundg (gk - 1)
        case measure => omega
        case rel => exact ⟨i + 1, by simp, by omega, rfl, HR.out⟩
    · have hr : digs s.data.toList = true := by
        rw [← HD.out, drop_end s i hi]
        rfl
      have HRR : Hid _ := hr
      clear hr
      go_wp2_with fail
      go_ret
      exact ⟨by rw [HRR.out]; rfl, rfl⟩

theorem digitsOnly_any (s : ByteArray) (w : World) (hs : s.size ≤ 100000000) :
    Calls Tryd.prog 44 #[.string s] w fun e w' => e = .returned (.bool (digs s.data.toList)) ∧ w' = w := by
  go_enter Tryd.func44, Tryd.ntmps44
  go_wp2_with fail
  go_loopg [6] s.size (fun g vi wr => ∃ i : Nat, vi = .int .i64 i ∧ i + g = s.size ∧ wr = w ∧ digs (s.data.toList.drop i) = digs s.data.toList)
  case atStart => exact ⟨0, rfl, by omega, rfl, rfl⟩
  case round =>
    obtain ⟨i, rfl, hig, rfl, hd⟩ := hrel
    have HD : Hid _ := hd
    clear hd
    by_cases hi : i < s.size
    · obtain ⟨x, hx⟩ : ∃ x, s[i] = x := ⟨_, rfl⟩
      have hds := drop_at s i hi
      rw [hx] at hds
      have HDS : Hid _ := hds
      clear hds
      have hdd : dig x = (decide (48 ≤ x.toNat) && decide (x.toNat ≤ 57)) := rfl
      have hdc : digs s.data.toList = (dig x && digs (s.data.toList.drop (i + 1))) := by
        rw [← HD.out, HDS.out]
        rfl
      have HDC : Hid _ := hdc
      clear hdc
      by_cases h1 : 48 ≤ x.toNat
      · have g1 : decide ((x.toNat : Int) < 48) = false := decide_eq_false (by omega)
        by_cases h2 : x.toNat ≤ 57
        · have g2 : decide ((57 : Int) < (x.toNat : Int)) = false := decide_eq_false (by omega)
          have hr : digs (s.data.toList.drop (i + 1)) = digs s.data.toList := by
            rw [HDC.out, hdd, decide_eq_true h1, decide_eq_true h2]
            rfl
          have HR : Hid _ := hr
          clear hr hdd
          go_wp2_with fail
          go_roundg (gk - 1)
          case measure => omega
          case rel => exact ⟨i + 1, by simp, by omega, rfl, HR.out⟩
        · have g2 : decide ((57 : Int) < (x.toNat : Int)) = true := decide_eq_true (by omega)
          have hr : digs s.data.toList = false := by
            rw [HDC.out, hdd, decide_eq_false h2, Bool.and_false, Bool.false_and]
          have HRR : Hid _ := hr
          clear hdd hr
          go_wp2_with fail
          go_ret
          exact ⟨by rw [HRR.out]; rfl, rfl⟩
      · have g1 : decide ((x.toNat : Int) < 48) = true := decide_eq_true (by omega)
        have hr : digs s.data.toList = false := by
          rw [HDC.out, hdd, decide_eq_false h1, Bool.false_and, Bool.false_and]
        have HRR : Hid _ := hr
        clear hdd hr
        go_wp2_with fail
        go_ret
        exact ⟨by rw [HRR.out]; rfl, rfl⟩
    · have hr : digs s.data.toList = true := by
        rw [← HD.out, drop_end s i hi]
        rfl
      have HRR : Hid _ := hr
      clear hr
      go_wp2_with fail
      go_ret
      exact ⟨by rw [HRR.out]; rfl, rfl⟩
end Go.Proofs.Qxb6606029aDoor
