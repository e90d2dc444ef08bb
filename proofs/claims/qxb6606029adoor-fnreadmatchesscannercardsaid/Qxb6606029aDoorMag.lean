/-
  MAGNITUDES: the schoolbook's sum and difference, on lists of bytes: no Go in this text.
-/
import Derived.Test.Qxb6606029aDoorNum
namespace Go.Proofs.Qxb6606029aDoor
open Go.Lib

/-- The magnitude's text: nothing for 0. -/
def mag (u : Nat) : List UInt8 := if u = 0 then [] else decDigits u
theorem mag_zero : mag 0 = [] := rfl
theorem mag_pos {u : Nat} (h : 0 < u) : mag u = decDigits u := by
  unfold mag
  rw [if_neg (by omega)]
theorem trim_mag {l : List UInt8} (h : digs l = true) : trimLeftB l 48 = mag (val l) := by
  by_cases hv : val l = 0
  · rw [trim_val_zero h hv, hv]
    rfl
  · rw [trim_val h (by omega), mag_pos (by omega)]
theorem digs_mag (u : Nat) : digs (mag u) = true := by
  unfold mag
  split
  · rfl
  · exact digs_decDigits u
theorem val_mag (u : Nat) : val (mag u) = u := by
  unfold mag
  split
  · rename_i h
    rw [h]
    rfl
  · exact val_decDigits u
theorem mag_step {u : Nat} (h : 0 < u) : mag u = mag (u / 10) ++ [UInt8.ofNat (48 + u % 10)] := by
  rw [mag_pos h]
  by_cases h10 : u < 10
  · rw [decDigits_small h10, show u / 10 = 0 by omega, mag_zero, Nat.mod_eq_of_lt h10]
    rfl
  · rw [decDigits_big h10, mag_pos (by omega)]
/-- A numeral without zeros ahead. -/
def Mag (l : List UInt8) : Prop := digs l = true ∧ trimLeftB l 48 = l
theorem Mag.eq {l : List UInt8} (h : Mag l) : l = mag (val l) := by
  rw [← trim_mag h.1]
  exact h.2.symm
theorem mag_Mag (u : Nat) : Mag (mag u) := by
  refine ⟨digs_mag u, ?_⟩
  rw [trim_mag (digs_mag u), val_mag]
theorem Mag_trim {l : List UInt8} (h : digs l = true) : Mag (trimLeftB l 48) := by
  rw [trim_mag h]
  exact mag_Mag _
theorem Mag.cases {l : List UInt8} (h : Mag l) : l = [] ∨ ∃ c r, l = c :: r ∧ c ≠ 48 := by
  rcases trim_head l with e | ⟨c, r, e, hc⟩
  · left
    rw [← h.2, e]
  · right
    exact ⟨c, r, by rw [← h.2, e], hc⟩
theorem Mag.lt_of_length {a b : List UInt8} (ha : Mag a) (hb : Mag b) (h : a.length < b.length) : val a < val b := by
  rcases hb.cases with rfl | ⟨c, r, rfl, hc⟩
  · exact absurd h (by simp)
  · have h1 := val_lt ha.1
    have h2 := val_ge hb.1 hc
    have h3 : 10 ^ a.length ≤ 10 ^ r.length := Nat.pow_le_pow_right (by decide) (by simp at h; omega)
    omega
theorem Mag.length_le {a b : List UInt8} (ha : Mag a) (hb : Mag b) (h : val a ≤ val b) : a.length ≤ b.length := by
  by_cases hl : a.length ≤ b.length
  · exact hl
  · have := hb.lt_of_length ha (by omega)
    omega

/-- The last k digits. -/
def tl (l : List UInt8) (k : Nat) : List UInt8 := l.drop (l.length - k)
theorem tl_zero (l : List UInt8) : tl l 0 = [] := by
  unfold tl
  rw [Nat.sub_zero, List.drop_length]
theorem tl_all (l : List UInt8) (k : Nat) (h : l.length ≤ k) : tl l k = l := by
  unfold tl
  rw [Nat.sub_eq_zero_of_le h, List.drop_zero]
theorem tl_length (l : List UInt8) (k : Nat) (h : k ≤ l.length) : (tl l k).length = k := by
  unfold tl
  rw [List.length_drop]
  omega
theorem tl_succ (l : List UInt8) (k : Nat) (h : k < l.length) : tl l (k + 1) = l[l.length - 1 - k]'(by omega) :: tl l k := by
  unfold tl
  rw [List.drop_eq_getElem_cons (show l.length - (k + 1) < l.length by omega)]
  congr 1
  · congr 1
    omega
  · congr 1
    omega
theorem tl_stay (l : List UInt8) (k : Nat) (h : ¬ k < l.length) : tl l (k + 1) = tl l k := by
  rw [tl_all l k (by omega), tl_all l (k + 1) (by omega)]
/-- The k-th digit from the end, 0 beyond. -/
def dk (l : List UInt8) (k : Nat) : Nat := if h : k < l.length then (l[l.length - 1 - k]'(by omega)).toNat - 48 else 0
theorem val_tl (l : List UInt8) (k : Nat) : val (tl l (k + 1)) = dk l k * 10 ^ k + val (tl l k) := by
  unfold dk
  by_cases h : k < l.length
  · rw [tl_succ l k h, val_cons, tl_length l k (by omega), dif_pos h]
  · rw [tl_stay l k h, dif_neg h, Nat.zero_mul, Nat.zero_add]
theorem set_tl (L : List UInt8) (k : Nat) (y : UInt8) (h : k < L.length) : tl (L.set (L.length - 1 - k) y) (k + 1) = y :: tl L k := by
  rw [tl_succ _ k (by rw [List.length_set]; exact h)]
  unfold tl
  simp only [List.length_set, List.getElem_set_self]
  congr 1
  rw [List.drop_set_of_lt (by omega)]
theorem digs_cons_iff (y : UInt8) (l : List UInt8) : digs (y :: l) = true ↔ (48 ≤ y.toNat ∧ y.toNat ≤ 57) ∧ digs l = true := by
  rw [digs_cons, Bool.and_eq_true, dig_iff]

/-- The state of addMag's loop. -/
def Add (a b L : List UInt8) (k c : Nat) : Prop := digs (tl L k) = true ∧ val (tl a k) + val (tl b k) = c * 10 ^ k + val (tl L k)
theorem add_step {a b L : List UInt8} {k c : Nat} (h : Add a b L k c) (hk : k < L.length) (y : UInt8) (q r : Nat) (hr : r ≤ 9) (hy : y.toNat = 48 + r) (hq : c + dk a k + dk b k = 10 * q + r) :
    Add a b (L.set (L.length - 1 - k) y) (k + 1) q := by
  obtain ⟨h1, h2⟩ := h
  unfold Add
  rw [set_tl L k y hk, digs_cons_iff, val_cons, tl_length L k (by omega), val_tl a, val_tl b]
  refine ⟨⟨by omega, h1⟩, ?_⟩
  rw [show y.toNat - 48 = r by omega, Nat.pow_succ]
  generalize 10 ^ k = P at h2 ⊢
  generalize val (tl a k) = A at h2 ⊢
  generalize val (tl b k) = B at h2 ⊢
  generalize val (tl L k) = R at h2 ⊢
  have e : (c + dk a k + dk b k) * P = (10 * q + r) * P := by rw [hq]
  rw [Nat.add_mul, Nat.add_mul, Nat.add_mul, Nat.mul_assoc] at e
  rw [Nat.mul_comm P 10]
  have e2 : q * (10 * P) = 10 * (q * P) := by rw [← Nat.mul_assoc, Nat.mul_comm q 10, Nat.mul_assoc]
  rw [e2]
  omega
/-- The state of subMag's loop. -/
def Sub (a b L : List UInt8) (k c : Nat) : Prop := digs (tl L k) = true ∧ val (tl a k) + c * 10 ^ k = val (tl b k) + val (tl L k)
theorem sub_step {a b L : List UInt8} {k c : Nat} (h : Sub a b L k c) (hk : k < L.length) (y : UInt8) (q r : Nat) (hr : r ≤ 9) (hy : y.toNat = 48 + r) (hq : dk a k + 10 * q = c + dk b k + r) :
    Sub a b (L.set (L.length - 1 - k) y) (k + 1) q := by
  obtain ⟨h1, h2⟩ := h
  unfold Sub
  rw [set_tl L k y hk, digs_cons_iff, val_cons, tl_length L k (by omega), val_tl a, val_tl b]
  refine ⟨⟨by omega, h1⟩, ?_⟩
  rw [show y.toNat - 48 = r by omega, Nat.pow_succ]
  generalize 10 ^ k = P at h2 ⊢
  generalize val (tl a k) = A at h2 ⊢
  generalize val (tl b k) = B at h2 ⊢
  generalize val (tl L k) = R at h2 ⊢
  have e : (dk a k + 10 * q) * P = (c + dk b k + r) * P := by rw [hq]
  rw [Nat.add_mul, Nat.add_mul, Nat.add_mul, Nat.mul_assoc] at e
  rw [Nat.mul_comm P 10]
  have e2 : q * (10 * P) = 10 * (q * P) := by rw [← Nat.mul_assoc, Nat.mul_comm q 10, Nat.mul_assoc]
  rw [e2]
  omega
theorem sub_end {a b L : List UInt8} {c : Nat} (hL : L.length = a.length) (hb : b.length ≤ a.length) (hv : val b ≤ val a) (h : Sub a b L a.length c) : digs L = true ∧ val L = val a - val b := by
  obtain ⟨h1, h2⟩ := h
  rw [tl_all L _ (by omega)] at h1 h2
  rw [tl_all a _ (Nat.le_refl _), tl_all b _ hb] at h2
  have hlt := val_lt h1
  rw [hL] at hlt
  have hc : c = 0 := by
    by_cases hc : c = 0
    · exact hc
    · have : 1 * 10 ^ a.length ≤ c * 10 ^ a.length := Nat.mul_le_mul_right _ (by omega)
      omega
  subst hc
  exact ⟨h1, by omega⟩
end Go.Proofs.Qxb6606029aDoor
