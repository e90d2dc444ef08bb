/-
  THE SCAN of modelRead, on lists of bytes: no Go in this text.
-/
import Derived.Test.Qxb6606029aDoorNum
namespace Go.Proofs.Qxb6606029aDoor

/-- From here on: how many bytes the scan takes, how many digits are among them, where the point is. -/
def scan : Bool → List UInt8 → Nat × Nat × Option Nat
  | _, [] => (0, 0, none)
  | pt, c :: r => if dig c then ((scan pt r).1 + 1, (scan pt r).2.1 + 1, (scan pt r).2.2.map (· + 1)) else if c = 46 ∧ pt = false then ((scan true r).1 + 1, (scan true r).2.1, some 0) else (0, 0, none)
theorem scan_nil (pt : Bool) : scan pt [] = (0, 0, none) := rfl
theorem scan_dig (pt : Bool) (c : UInt8) (r : List UInt8) (h : dig c = true) : scan pt (c :: r) = ((scan pt r).1 + 1, (scan pt r).2.1 + 1, (scan pt r).2.2.map (· + 1)) := by
  rw [scan, if_pos h]
theorem scan_point (r : List UInt8) : scan false (46 :: r) = ((scan true r).1 + 1, (scan true r).2.1, some 0) := by
  rw [scan, if_neg (by decide), if_pos ⟨rfl, rfl⟩]
theorem scan_stop (pt : Bool) (c : UInt8) (r : List UInt8) (h : dig c = false) (h2 : ¬ (c = 46 ∧ pt = false)) : scan pt (c :: r) = (0, 0, none) := by
  rw [scan, if_neg (by rw [h]; decide), if_neg h2]
/-- The loop's state: i, the count c, the point p (or -1); what they come to: E, C, P. -/
def Scan (l : List UInt8) (i c : Nat) (p : Int) (E C : Nat) (P : Int) : Prop :=
  i + (scan (decide (0 ≤ p)) (l.drop i)).1 = E ∧ c + (scan (decide (0 ≤ p)) (l.drop i)).2.1 = C ∧
  (if 0 ≤ p then P = p else match (scan false (l.drop i)).2.2 with | none => P = -1 | some k => P = ((i + k : Nat) : Int))
def endOf (l : List UInt8) (i : Nat) : Nat := i + (scan false (l.drop i)).1
def cntOf (l : List UInt8) (i : Nat) : Nat := (scan false (l.drop i)).2.1
def pntOf (l : List UInt8) (i : Nat) : Int := match (scan false (l.drop i)).2.2 with | none => -1 | some k => ((i + k : Nat) : Int)
theorem Scan.start (l : List UInt8) (i : Nat) : Scan l i 0 (-1) (endOf l i) (cntOf l i) (pntOf l i) := by
  refine ⟨rfl, by rw [Nat.zero_add]; rfl, ?_⟩
  rw [if_neg (by decide)]
  unfold pntOf
  split <;> rfl
theorem Scan.digit {l : List UInt8} {i c : Nat} {p : Int} {E C : Nat} {P : Int} {x : UInt8} (h : Scan l i c p E C P) (hx : dig x = true) (hd : l.drop i = x :: l.drop (i + 1)) : Scan l (i + 1) (c + 1) p E C P := by
  obtain ⟨h1, h2, h3⟩ := h
  rw [hd, scan_dig _ _ _ hx] at h1 h2
  simp only at h1 h2
  refine ⟨by omega, by omega, ?_⟩
  by_cases hp : 0 ≤ p
  · rw [if_pos hp] at h3 ⊢
    exact h3
  · rw [if_neg hp, hd, scan_dig _ _ _ hx] at h3
    rw [if_neg hp]
    cases e : (scan false (l.drop (i + 1))).2.2 with
    | none =>
      rw [e] at h3
      exact h3
    | some k =>
      rw [e] at h3
      simp only [Option.map_some] at h3 ⊢
      rw [h3]
      congr 1
      omega
theorem Scan.point {l : List UInt8} {i c : Nat} {p : Int} {E C : Nat} {P : Int} (h : Scan l i c p E C P) (hp : ¬ 0 ≤ p) (hd : l.drop i = 46 :: l.drop (i + 1)) : Scan l (i + 1) c (i : Int) E C P := by
  obtain ⟨h1, h2, h3⟩ := h
  rw [decide_eq_false hp, hd, scan_point] at h1 h2
  simp only at h1 h2
  rw [if_neg hp, hd, scan_point] at h3
  unfold Scan
  rw [decide_eq_true (show (0 : Int) ≤ (i : Int) by omega)]
  refine ⟨by omega, h2, ?_⟩
  rw [if_pos (by omega)]
  simpa using h3
theorem Scan.stop {l : List UInt8} {i c : Nat} {p : Int} {E C : Nat} {P : Int} (h : Scan l i c p E C P) (hp1 : p = -1 ∨ 0 ≤ p) (hs : scan (decide (0 ≤ p)) (l.drop i) = (0, 0, none)) : i = E ∧ c = C ∧ p = P := by
  obtain ⟨h1, h2, h3⟩ := h
  rw [hs] at h1 h2
  simp only [Nat.add_zero] at h1 h2
  refine ⟨h1, h2, ?_⟩
  by_cases hp : 0 ≤ p
  · rw [if_pos hp] at h3
    exact h3.symm
  · rw [decide_eq_false hp] at hs
    rw [if_neg hp, hs] at h3
    rcases hp1 with e | e
    · rw [e]; exact h3.symm
    · exact absurd e hp
end Go.Proofs.Qxb6606029aDoor
