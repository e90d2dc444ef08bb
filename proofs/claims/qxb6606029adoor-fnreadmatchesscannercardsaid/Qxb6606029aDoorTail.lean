/-
  WHAT modelRead ANSWERS, as a function of the bytes.
-/
import Derived.Test.Qxb6606029aDoorScan
import Derived.Test.Qxb6606029aDoorForms
import Derived.Test.Qxb6606029aDoorMsum
namespace Go.Proofs.Qxb6606029aDoor

def badV : Value := .tuple #[.bool false, .agg #[.bool false, .string ⟨#[]⟩, .string ⟨#[]⟩]]
/-- The exponent's text, behind its letter. -/
def expOf (x : List UInt8) : Option (Bool × List UInt8) := if unsign x ≠ [] ∧ digs (unsign x) = true then some (decide (x.head? = some 45), Lib.trimLeftB (unsign x) 48) else none
/-- What stands behind the mantissa. -/
def tailOf (l : List UInt8) (E : Nat) : Option (Bool × List UInt8) := match l.drop E with
  | [] => some (false, [])
  | c :: x => if c = 101 ∨ c = 69 then expOf x else none
def nz (c : UInt8) : Bool := c != 46 && c != 48
/-- The first and the last place in [a, b) that bears a digit other than 0. -/
def FL (l : List UInt8) (a b : Nat) (f la : Int) : Prop :=
  (f = -1 ∧ la = -1 ∧ ∀ (j : Nat) c, a ≤ j → j < b → l[j]? = some c → nz c = false) ∨
  (∃ i k : Nat, f = i ∧ la = k ∧ a ≤ i ∧ i ≤ k ∧ k < b ∧ (∃ c, l[i]? = some c ∧ nz c = true) ∧ (∃ c, l[k]? = some c ∧ nz c = true) ∧
    (∀ (j : Nat) c, a ≤ j → j < i → l[j]? = some c → nz c = false) ∧ (∀ (j : Nat) c, k < j → j < b → l[j]? = some c → nz c = false))
theorem FL.start (l : List UInt8) (a : Nat) : FL l a a (-1) (-1) := Or.inl ⟨rfl, rfl, fun j c h1 h2 => by omega⟩
theorem FL.pass {l : List UInt8} {a b : Nat} {f la : Int} {x : UInt8} (h : FL l a b f la) (hx : l[b]? = some x) (hn : nz x = false) : FL l a (b + 1) f la := by
  rcases h with ⟨h1, h2, h3⟩ | ⟨i, k, h1, h2, h3, h4, h5, h6, h7, h8, h9⟩
  · refine Or.inl ⟨h1, h2, fun j c g1 g2 g3 => ?_⟩
    by_cases hj : j = b
    · rw [hj, hx] at g3
      rw [← Option.some.inj g3]
      exact hn
    · exact h3 j c g1 (by omega) g3
  · refine Or.inr ⟨i, k, h1, h2, h3, h4, by omega, h6, h7, h8, fun j c g1 g2 g3 => ?_⟩
    by_cases hj : j = b
    · rw [hj, hx] at g3
      rw [← Option.some.inj g3]
      exact hn
    · exact h9 j c g1 (by omega) g3
theorem FL.hit {l : List UInt8} {a b : Nat} {f la : Int} {x : UInt8} (h : FL l a b f la) (hab : a ≤ b) (hx : l[b]? = some x) (hn : nz x = true) : FL l a (b + 1) (if f < 0 then (b : Int) else f) b := by
  rcases h with ⟨h1, h2, h3⟩ | ⟨i, k, h1, h2, h3, h4, h5, h6, h7, h8, h9⟩
  · refine Or.inr ⟨b, b, by rw [if_pos (by omega)], rfl, hab, Nat.le_refl _, by omega, ⟨x, hx, hn⟩, ⟨x, hx, hn⟩, h3, fun j c g1 g2 => by omega⟩
  · refine Or.inr ⟨i, b, by rw [if_neg (by omega)]; exact h1, rfl, h3, by omega, by omega, h6, ⟨x, hx, hn⟩, h8, fun j c g1 g2 => by omega⟩
end Go.Proofs.Qxb6606029aDoor
