/-
  decimal.Read where the text has no exponent and is zero.
-/
import Derived.Test.Qxb6606029aDoorReadK
namespace Go.Proofs.Qxb6606029aDoor
open Go.RowKit Go.Joins

set_option maxHeartbeats 4000000 in
set_option maxRecDepth 100000 in
theorem read_zero (s u wh fr wf dg : ByteArray) (b : Bool) (w : World)
    (cI : Ct (begun w) 26 #[.string s, .string ⟨#[101, 69]⟩] (.int .i64 (-1)))
    (cP : Ct (begun w) 27 #[.string s] (.bool true))
    (cT : Ct (begun w) 29 #[.string s, .string ⟨#[43, 45]⟩] (.string u)) (cK : Ct (begun w) 30 #[.string u, .string ⟨#[46]⟩] (.tuple #[.string wh, .string fr, .bool b]))
    (hwf : wh ++ fr = wf) (hwz : wh.size ≤ 100000000) (hfz : fr.size ≤ 100000000) (cL : Ct (begun w) 29 #[.string wf, .string ⟨#[48]⟩] (.string dg)) (cR : Ct (begun w) 31 #[.string dg, .string ⟨#[48]⟩] (.string ⟨#[]⟩)) :
    Calls Tryd.prog 15 #[.string s] w fun e w' => e = .returned (.tuple #[.agg #[.bool false, .string ⟨#[]⟩, .string ⟨#[48]⟩], .bool true]) ∧ Below w.heap.size w w' := by
  have G : Below (begun w).heap.size (begun w) (begun w) := Below.refl _ _
  go_enter Tryd.func15, Tryd.ntmps15
  go_wp2_with (first | (go_at_call 26; go_fit (cI _ (by exact G)); rintro e w' ⟨rfl, G2⟩; clear G; have G := G2; clear G2) | (go_at_call 27; go_fit (cP _ (by exact G)); rintro e w' ⟨rfl, G2⟩; clear G; have G := G2; clear G2) | (go_at_call 29; first | (go_fit (cT _ (by exact G)); rintro e w' ⟨rfl, G2⟩; clear G; have G := G2; clear G2) | (go_fit (cL _ (by exact G)); rintro e w' ⟨rfl, G2⟩; clear G; have G := G2; clear G2)) | (go_at_call 30; go_fit (cK _ (by exact G)); rintro e w' ⟨rfl, G2⟩; clear G; have G := G2; clear G2) | (go_at_call 31; go_fit (cR _ (by exact G)); rintro e w' ⟨rfl, G2⟩; clear G; have G := G2; clear G2; obtain ⟨k0, k1, k2, f0, f1, f2⟩ := begun_cells G) | fail)
  have hb := (((begun_below G).setCell (p := ⟨w.heap.size, 0, none⟩) (Nat.le_refl _) (.bool false)).setCell (p := ⟨w.heap.size, 1, none⟩) (Nat.le_refl _) (.string ⟨#[]⟩)).setCell (p := ⟨w.heap.size, 2, none⟩) (Nat.le_refl _) (.string ⟨#[48]⟩)
  exact bodyPost_ret (v := .tuple #[.agg #[.bool false, .string ⟨#[]⟩, .string ⟨#[48]⟩], .bool true]) (by simp [results, Tryd.results15, go_sem, k0, k1, k2]) rfl ⟨rfl, hb⟩
end Go.Proofs.Qxb6606029aDoor
