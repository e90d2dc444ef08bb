/-
  The ground of decimal.Read's walk: contracts in every world that holds the blocks of the first.
-/
import Derived.Test.Qxb6606029aDoorSum
import Derived.Laws.ResultCell
namespace Go.Proofs.Qxb6606029aDoor
open Go.RowKit Go.Joins

/-- A contract in every world that holds w0's blocks. -/
def Ct (w0 : World) (f : Nat) (args : Array Value) (v : Value) : Prop :=
  ∀ wk, Below w0.heap.size w0 wk → Calls Tryd.prog f args wk fun e w' => e = .returned v ∧ Below w0.heap.size w0 w'
theorem below_drewK {w0 w : World} (h : Below w0.heap.size w0 w) : ∀ n, Below w0.heap.size w0 (w.drewN n)
  | 0 => h
  | n + 1 => (below_drewK h n).drew
/-- The world that Read begins in: the cell of its result. -/
abbrev begun (w : World) : World := w.alloc (.cells #[.bool false, .string ⟨#[]⟩, .string ⟨#[]⟩] 31)

theorem begun_cells {w w' : World} (h : Below (begun w).heap.size (begun w) w') :
    w'.cell? ⟨w.heap.size, 0, none⟩ = some (.bool false) ∧ w'.cell? ⟨w.heap.size, 1, none⟩ = some (.string ⟨#[]⟩) ∧ w'.cell? ⟨w.heap.size, 2, none⟩ = some (.string ⟨#[]⟩) ∧
    w'.frozen? ⟨w.heap.size, 0, none⟩ = false ∧ w'.frozen? ⟨w.heap.size, 1, none⟩ = false ∧ w'.frozen? ⟨w.heap.size, 2, none⟩ = false := by
  have hlt : w.heap.size < (begun w).heap.size := by simp [begun]
  refine ⟨(h.cell hlt).trans ?_, (h.cell hlt).trans ?_, (h.cell hlt).trans ?_, (h.frozen hlt).trans ?_, (h.frozen hlt).trans ?_, (h.frozen hlt).trans ?_⟩ <;> simp [begun]

theorem begun_below {w w' : World} (h : Below (begun w).heap.size (begun w) w') : Below w.heap.size w w' :=
  ((Below.refl _ w).alloc (Nat.le_refl _) _).trans (h.mono (by simp [begun]))
end Go.Proofs.Qxb6606029aDoor
