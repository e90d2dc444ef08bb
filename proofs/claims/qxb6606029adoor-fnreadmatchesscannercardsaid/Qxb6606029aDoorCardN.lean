/-
  FnReadMatchesScanner: the row and the tied card, proved.
-/
import Derived.Test.Qxb6606029aDoorLawN
import Derived.Test.Qxb6606029aDoorWrap
import Derived.Test.Qxb6606029aDoorTie
import Derived.Test.Qxb6606029aDoorCards
import Derived.ProofKit
import Derived.OpenShut
import Derived.LaidMore
import Derived.Lay
import Derived.SevenTiedAt
import Derived.Stop.Joined
import Derived.Shelf.Vars
import Derived.Lib.LaidTab
import Derived.LaidSub
namespace Go.Proofs.Qxb6606029aDoor
open Go.ChangeShapes Go.WideShapes Go.ChangeAt Go.RowKit Go.WideMaps Go.WideElems
open Go.ChangeMaps (open_string shut_string)

theorem own : ownKnob Tryd.prog.godebug = none := by kernel_rfl
theorem maxLen_cell {W : World} (hsh : W.ShapedOpen Tryd.prog) : ∃ m, W.cell? ⟨0, 0, none⟩ = some (.int .i64 m) :=
  cell_of_shapedOpen_int (P := Tryd.prog) (g := 0) (t := 3) (zero := #[.int .i64 0]) hsh (of_decide_eq_true (by kernel_rfl)) (by kernel_rfl) rfl (by kernel_rfl) (by kernel_rfl) Tryd.underlying3

theorem tab_laid {W : World} (h : laidMetH Tryd.prog Rows.fnReadMatchesScannerRow.laid W) : Tab W := by
  rw [MakeChecks.laidMetH_plain _ _ _ (by kernel_rfl)] at h
  have h2 := laidMet.filter (fun x => x.1 == powName) h
  rw [show List.filter (fun x => x.1 == powName) Rows.fnReadMatchesScannerRow.laid = [(powName, Lib.tabData .u64 Lib.pow10Tab)] by kernel_rfl] at h2
  exact Lib.tabIs_of_head (P := Tryd.prog) (W := W) (k := .u64) (zs := Lib.pow10Tab) (rest := []) (g := 3) (t := 91) (e := 38) (n := 20) (by kernel_rfl) (by kernel_rfl) Tryd.underlying91 Tryd.underlying38 (by kernel_rfl) (by kernel_rfl) h2

set_option maxRecDepth 100000 in
theorem liftedN (os : Os) (started : os.Started) (H : Type) (enc : TypeId × Value → H) :
    ReturnsInHanded {} Tryd.checked os 5 .any (fun w args => (Rows.fnReadMatchesScannerSpec.pre enc Tryd.prog Tryd.f5 [] false w args ∧ laidMetH Tryd.prog Rows.fnReadMatchesScannerRow.laid w) ∧ sizedMet enc Tryd.prog Tryd.f5 (OpenSpec.ofChange Rows.fnReadMatchesScannerSpec) false w args)
      (Rows.fnReadMatchesScannerSpec.post enc Tryd.prog Tryd.f5 false true false false) := by
  refine returns_of_and_shaped (C := Tryd.checked) (X := fun w _ => laidMetH Tryd.prog Rows.fnReadMatchesScannerRow.laid w) (fun _ _ _ hh h => h.of_heap hh) own started (by kernel_rfl) Tryd.func5
    (ChangeSpec.witness_shaped (enc := enc) (C := Tryd.checked) (os := os) (X := fun w _ => laidMetH Tryd.prog Rows.fnReadMatchesScannerRow.laid w) false (World.laidAll Tryd.prog os Rows.fnReadMatchesScannerRow.laid) #[.string ⟨#[]⟩] 8 (World.laidAll_os _ _ _)
      (World.shaped_of_ZipB (by kernel_rfl) (by kernel_rfl)) (by kernel_rfl) (by kernel_rfl) (by kernel_rfl)
      (by rw [MakeChecks.laidMetH_plain _ _ _ (by kernel_rfl)]; exact laidMet_laidAll _ (by kernel_rfl) (by kernel_rfl))) ?_
  intro W base args ds gs before hval0 hW _ hL hsh
  have hval : ∀ (j : Nat) t v, Tryd.f5.params[j]? = some t → args[j]? = some v → Value.okWide Tryd.prog W .any base t v := hval0
  have hW' := hW
  obtain ⟨p, q, hA0, hV, rfl, _, _⟩ := hW
  have hA : DataW.TrodAll enc Tryd.prog W 0 (fun _ => true) true Tryd.f5.params.toList args.toList ds p := hA0
  rw [Tryd.params5] at hA hval
  obtain ⟨v0, d0, rfl, rfl, h0⟩ := trodAll_one hA
  obtain ⟨rfl, rfl⟩ := trodVars_none hV
  obtain ⟨x, rfl, rfl, rfl, hx⟩ := open_string Tryd.underlying9 (hval 0 9 v0 rfl rfl) h0
  simp only [List.append_nil] at hW'
  obtain ⟨m, hm⟩ := maxLen_cell hsh
  refine (lawN_any x W m hx hm (tab_laid hL)).mono fun e W' ⟨he, hb⟩ => ?_
  subst he
  exact ⟨_, rfl, _, _, _, [], [], [], hW', trodAll_mk1 (shut_bool Tryd.underlying4 _), trodAll_mk1 (shut_string Tryd.underlying9 hx), rfl, hb.frame _, fun h => by cases h⟩

theorem holdsN : Rows.FnReadMatchesScannerSaid :=
  OpenClaim.holds_of_wide 5 Tryd.f5 rfl rfl rfl rfl rfl rfl rfl ⟨rfl, rfl, rfl, rfl, rfl⟩ rfl rfl rfl rfl rfl (by kernel_rfl) Tryd.func5 (by kernel_rfl)
    (of_decide_eq_true (by kernel_rfl)) (by unfold Func.isWrapper; first | (rw [if_pos (by decide +kernel)]; kernel_rfl) | (rw [if_neg (by decide +kernel)]; exact ⟨rfl, rfl⟩))
    (fun os started H enc _ => liftedN os started H enc)

theorem readMatchesScanner_card : Rows.FnReadMatchesScannerCardSaid :=
  Claim7.holds_tied_plain_at .later [] [.data, .data, .data, .data, .sentinel, .sentinel, .pinned] true (true, "22086095745cb5fb6515bfab9ae841909c2a7e5bee83476cd693a4385ba16fde") true holdsN (fun _ h => by cases h) (by kernel_rfl) (fun _ h => by cases h) fnReadMatchesScanner_row_tie rfl ⟨rfl, rfl⟩ (by kernel_rfl) rfl
    (fun f fn hf hfn => by
      obtain rfl : f = 5 := Option.some.inj ((show Tryd.prog.funcNamed Tryd.f5.name = some 5 by kernel_rfl).symm.trans hf) |>.symm
      obtain rfl : fn = Tryd.f5 := (Option.some.inj (Tryd.func5.symm.trans hfn)).symm
      exact ⟨by kernel_rfl, fun j t ht => by
        rw [Tryd.params5] at ht
        have hm : t ∈ [9] := by simpa using Array.mem_of_getElem? ht
        have hall : ([9].all fun u => !Tryd.prog.wantsStandIn u) = true := by kernel_rfl
        exact (show Tryd.prog.wantsStandIn t = false by simpa using List.all_eq_true.1 hall t hm)⟩)
    (by kernel_rfl)
end Go.Proofs.Qxb6606029aDoor
