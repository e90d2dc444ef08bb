/-
  A []string that came in, as the walks want it.
-/
import Derived.Test.Qxb6605381aDoorStrs
import Derived.ProofKit
import Derived.SliceStrings
namespace Go.Proofs.Qxb6605381aDoor
open Go.ChangeShapes Go.WideShapes Go.RowKit Go.WideMaps Go.WideElems

theorem Tryd.cells9 : Tryd.prog.cellsOf 9 = 1 := by kernel_rfl
theorem Tryd.laidOut : laidOutB Tryd.prog = true := by kernel_rfl

theorem open_arg {H : Type} {enc : TypeId × Value → H} {W : World} {a0 : Option Addr} {len cap fuel : Nat} {x : DataW H × List MemPlace}
    (hf : DataW.trod enc Tryd.prog W 0 (fun _ => true) true fuel 24 [.slice a0 len cap] = some x) :
    ∃ xs : List ByteArray, len = xs.length ∧ HS W a0 xs ∧ xs.length ≤ maxLen ∧ (a0 = none → xs = [] ∧ cap = 0) := by
  rcases open_strings Tryd.underlying24 Tryd.underlying9 Tryd.cells9 hf with ⟨hcs, _⟩ | ⟨a, len', cap', ss, hcs, _, hl, hm, hz, _, hcell, _⟩
  · simp at hcs
    obtain ⟨rfl, rfl, rfl⟩ := hcs
    exact ⟨[], rfl, .inl rfl, Nat.zero_le _, fun _ => ⟨rfl, rfl⟩⟩
  · simp at hcs
    obtain ⟨rfl, rfl, rfl⟩ := hcs
    simp only [if_true] at hz
    have hlen : (ss.take len).length = len := by simp; omega
    refine ⟨ss.take len, hlen.symm, ?_, by omega, fun h => by cases h⟩
    by_cases h0 : len = 0
    · exact .inl (by rw [h0]; rfl)
    · obtain ⟨b, off, spot⟩ := a
      have h0c := hcell 0 (by omega)
      have hspot : spot = none := by simpa [Addr.add] using World.cell?_spot h0c
      subst hspot
      have add : ∀ j, (⟨b, off, none⟩ : Addr).add j = ⟨b, off + j, none⟩ := fun j => by
        unfold Addr.add
        by_cases h : j = 0
        · simp [h]
        · simp [h]
      refine .inr ⟨b, off, rfl, ?_, fun j hj => ?_⟩
      · rw [add] at h0c
        exact World.block_lt_of_cell? _ _ h0c
      · have hj' : j < len := by omega
        have := hcell j (by omega)
        rw [add] at this
        rw [this]
        congr 2
        rw [List.getElem_take, List.getD_eq_getElem?_getD, List.getElem?_eq_getElem (by omega)]
        rfl
end Go.Proofs.Qxb6605381aDoor
