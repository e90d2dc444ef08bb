/-
  FnMatchSelfAndBrackets: the row and the tied card, proved.
-/
import Derived.Test.Qxb6605381aDoorLawM
import Derived.Test.Qxb6605381aDoorArgs
import Derived.Test.Qxb6605381aDoorWrap
import Derived.Test.Qxb6605381aDoorTie
import Derived.Test.Qxb6605381aDoorCards
import Derived.ProofKit
import Derived.OpenShut
import Derived.LaidMore
import Derived.Lay
import Derived.SevenTiedAt
import Derived.Stop.Joined
namespace Go.Proofs.Qxb6605381aDoor
open Go.ChangeShapes Go.WideShapes Go.ChangeAt Go.RowKit Go.WideMaps Go.WideElems
open Go.ChangeMaps (open_string shut_string)

theorem own : ownKnob Tryd.prog.godebug = none := by kernel_rfl
set_option maxRecDepth 100000 in
theorem liftedM (os : Os) (started : os.Started) (H : Type) (enc : TypeId × Value → H) :
    ReturnsInHanded {} Tryd.checked os 6 .any (fun w args => (Rows.fnMatchSelfAndBracketsSpec.pre enc Tryd.prog Tryd.f6 [] false w args ∧ laidMetH Tryd.prog Rows.fnMatchSelfAndBracketsRow.laid w) ∧ sizedMet enc Tryd.prog Tryd.f6 (OpenSpec.ofChange Rows.fnMatchSelfAndBracketsSpec) false w args)
      (Rows.fnMatchSelfAndBracketsSpec.post enc Tryd.prog Tryd.f6 false true false false) := by
  refine returns_of_and_shaped (C := Tryd.checked) (X := fun w _ => laidMetH Tryd.prog Rows.fnMatchSelfAndBracketsRow.laid w) (fun _ _ _ hh h => h.of_heap hh) own started (by kernel_rfl) Tryd.func6
    (ChangeSpec.witness_shaped (enc := enc) (C := Tryd.checked) (os := os) (X := fun w _ => laidMetH Tryd.prog Rows.fnMatchSelfAndBracketsRow.laid w) false (World.laidAll Tryd.prog os Rows.fnMatchSelfAndBracketsRow.laid) #[.string ⟨#[]⟩, .slice none 0 0] 8 (World.laidAll_os _ _ _)
      (World.shaped_of_ZipB (by kernel_rfl) (by kernel_rfl)) (by kernel_rfl) (by kernel_rfl) (by kernel_rfl)
      (by rw [MakeChecks.laidMetH_plain _ _ _ (by kernel_rfl)]; exact laidMet_laidAll _ (by kernel_rfl) (by kernel_rfl))) ?_
  intro W base args ds gs before hval0 hW _ _ _
  have hval : ∀ (j : Nat) t v, Tryd.f6.params[j]? = some t → args[j]? = some v → Value.okWide Tryd.prog W .any base t v := hval0
  have hW' := hW
  obtain ⟨p, q, hA0, hV, rfl, _, _⟩ := hW
  have hA : DataW.TrodAll enc Tryd.prog W 0 (fun _ => true) true Tryd.f6.params.toList args.toList ds p := hA0
  rw [Tryd.params6] at hA hval
  obtain ⟨v0, v1, d0, d1, p0, p1, rfl, rfl, rfl, h0, h1⟩ := trodAll_two hA
  obtain ⟨rfl, rfl⟩ := trodVars_none hV
  obtain ⟨nm, rfl, rfl, rfl, hnm⟩ := open_string Tryd.underlying9 (hval 0 9 v0 rfl rfl) h0
  obtain ⟨a0, len, cap, rfl⟩ := okWide_slice Tryd.underlying24 (hval 1 24 v1 rfl rfl)
  have h1k := h1
  obtain ⟨fuel, hf⟩ := h1
  simp only [List.append_nil, List.nil_append] at hW'
  have hlt : ∀ x ∈ p1, x.block < W.heap.size := fun x hx => by simpa using hW'.lt x hx
  obtain ⟨xs, rfl, hxs, hn, hnil⟩ := open_arg hf
  have key : Calls Tryd.prog 6 #[.string nm, .slice a0 xs.length cap] W fun e w' => e = .returned (.bool true) ∧ Below W.heap.size W w' := by
    cases a0 with
    | none =>
      obtain ⟨rfl, rfl⟩ := hnil rfl
      exact lawM_nil nm W hnm
    | some a => exact lawM_some nm a cap xs W hxs hnm hn
  refine key.mono fun e W' ⟨he, hb⟩ => ?_
  subst he
  exact ⟨_, rfl, _, _, _, [], p1, [], hW', trodAll_mk1 (shut_bool Tryd.underlying4 _), trodAll_mk2 (shut_string Tryd.underlying9 hnm) (Below.trod Tryd.laidOut (by kernel_rfl) (of_decide_eq_true (by kernel_rfl)) h1k hb hlt), rfl, hb.frame _, fun h => by cases h⟩

theorem holdsM : Rows.FnMatchSelfAndBracketsSaid :=
  OpenClaim.holds_of_wide 6 Tryd.f6 rfl rfl rfl rfl rfl rfl rfl ⟨rfl, rfl, rfl, rfl, rfl⟩ rfl rfl rfl rfl rfl (by kernel_rfl) Tryd.func6 (by kernel_rfl)
    (of_decide_eq_true (by kernel_rfl)) (by unfold Func.isWrapper; first | (rw [if_pos (by decide +kernel)]; kernel_rfl) | (rw [if_neg (by decide +kernel)]; exact ⟨rfl, rfl⟩))
    (fun os started H enc _ => liftedM os started H enc)

theorem matchSelfAndBrackets_card : Rows.FnMatchSelfAndBracketsCardSaid :=
  Claim7.holds_tied_plain_at .later [] [.data, .pinned] true (true, "611d47dc6be6a5e55baaaadd6616bc4cfcc2ba97c4bd3510f979e01afa7fa7c8") false holdsM (fun _ h => by cases h) (by kernel_rfl) (fun _ h => by cases h) fnMatchSelfAndBrackets_row_tie rfl ⟨rfl, rfl⟩ (by kernel_rfl) rfl
    (fun f fn hf hfn => by
      obtain rfl : f = 6 := Option.some.inj ((show Tryd.prog.funcNamed Tryd.f6.name = some 6 by kernel_rfl).symm.trans hf) |>.symm
      obtain rfl : fn = Tryd.f6 := (Option.some.inj (Tryd.func6.symm.trans hfn)).symm
      exact ⟨by kernel_rfl, fun j t ht => by
        rw [Tryd.params6] at ht
        have hm : t ∈ [9, 24] := by simpa using Array.mem_of_getElem? ht
        have hall : ([9, 24].all fun u => !Tryd.prog.wantsStandIn u) = true := by kernel_rfl
        exact (show Tryd.prog.wantsStandIn t = false by simpa using List.all_eq_true.1 hall t hm)⟩)
    (by kernel_rfl)
end Go.Proofs.Qxb6605381aDoor
