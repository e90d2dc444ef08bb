/-
  FnJoinReadsBackAsWords: the row and the tied card, proved.
-/
import Derived.Test.Qxb6600464aDoorLawJ
import Derived.Test.Qxb6600464aDoorArgs
import Derived.Test.Qxb6600464aDoorWrap
import Derived.Test.Qxb6600464aDoorTie
import Derived.Test.Qxb6600464aDoorCards
import Derived.ProofKit
import Derived.OpenShut
import Derived.LaidMore
import Derived.Lay
import Derived.SevenTiedAt
import Derived.Stop.Joined
import Derived.Shelf.Vars
namespace Go.Proofs.Qxb6600464aDoor
open Go.ChangeShapes Go.WideShapes Go.ChangeAt Go.RowKit Go.WideMaps Go.WideElems

theorem own : ownKnob Tryd.prog.godebug = none := by kernel_rfl
theorem maxLen_cell {W : World} (hsh : W.ShapedOpen Tryd.prog) : ∃ m, W.cell? ⟨0, 0, none⟩ = some (.int .i64 m) :=
  cell_of_shapedOpen_int (P := Tryd.prog) (g := 0) (t := 3) (zero := #[.int .i64 0]) hsh (of_decide_eq_true (by kernel_rfl)) (by kernel_rfl) rfl (by kernel_rfl) (by kernel_rfl) Tryd.underlying3

set_option maxRecDepth 100000 in
theorem liftedJ (os : Os) (started : os.Started) (H : Type) (enc : TypeId × Value → H) :
    ReturnsInHanded {} Tryd.checked os 4 .any (fun w args => (Rows.fnJoinReadsBackAsWordsSpec.pre enc Tryd.prog Tryd.f4 [] false w args ∧ laidMetH Tryd.prog Rows.fnJoinReadsBackAsWordsRow.laid w) ∧ sizedMet enc Tryd.prog Tryd.f4 (OpenSpec.ofChange Rows.fnJoinReadsBackAsWordsSpec) false w args)
      (Rows.fnJoinReadsBackAsWordsSpec.post enc Tryd.prog Tryd.f4 false true false false) := by
  refine returns_of_and_shaped (C := Tryd.checked) (X := fun w _ => laidMetH Tryd.prog Rows.fnJoinReadsBackAsWordsRow.laid w) (fun _ _ _ hh h => h.of_heap hh) own started (by kernel_rfl) Tryd.func4
    (ChangeSpec.witness_shaped (enc := enc) (C := Tryd.checked) (os := os) (X := fun w _ => laidMetH Tryd.prog Rows.fnJoinReadsBackAsWordsRow.laid w) false (World.laidAll Tryd.prog os Rows.fnJoinReadsBackAsWordsRow.laid) #[.slice none 0 0] 8 (World.laidAll_os _ _ _)
      (World.shaped_of_ZipB (by kernel_rfl) (by kernel_rfl)) (by kernel_rfl) (by kernel_rfl) (by kernel_rfl)
      (by rw [MakeChecks.laidMetH_plain _ _ _ (by kernel_rfl)]; exact laidMet_laidAll _ (by kernel_rfl) (by kernel_rfl))) ?_
  intro W base args ds gs before hval0 hW _ hL hsh
  have hval : ∀ (j : Nat) t v, Tryd.f4.params[j]? = some t → args[j]? = some v → Value.okWide Tryd.prog W .any base t v := hval0
  have hW' := hW
  obtain ⟨p, q, hA0, hV, rfl, _, _⟩ := hW
  have hA : DataW.TrodAll enc Tryd.prog W 0 (fun _ => true) true Tryd.f4.params.toList args.toList ds p := hA0
  rw [Tryd.params4] at hA hval
  obtain ⟨v0, d0, rfl, rfl, h0⟩ := trodAll_one hA
  obtain ⟨rfl, rfl⟩ := trodVars_none hV
  obtain ⟨a0, len, cap, rfl⟩ := okWide_slice Tryd.underlying23 (hval 0 23 v0 rfl rfl)
  have h0k := h0
  obtain ⟨fuel, hf⟩ := h0
  simp only [List.append_nil] at hW'
  have hlt : ∀ x ∈ p, x.block < W.heap.size := fun x hx => by simpa using hW'.lt x hx
  obtain ⟨xs, rfl, hxs, hn, hnil⟩ := open_arg hf
  obtain ⟨m, hm⟩ := maxLen_cell hsh
  refine (lawJ_any a0 cap xs W hxs hn hnil m hm).mono fun e W' ⟨he, hb⟩ => ?_
  subst he
  exact ⟨_, rfl, _, _, _, [], p, [], hW', trodAll_mk1 (shut_bool Tryd.underlying4 _), trodAll_mk1 (Below.trod Tryd.laidOut (by kernel_rfl) (of_decide_eq_true (by kernel_rfl)) h0k hb hlt), rfl, hb.frame _, fun h => by cases h⟩

theorem holdsJ : Rows.FnJoinReadsBackAsWordsSaid :=
  OpenClaim.holds_of_wide 4 Tryd.f4 rfl rfl rfl rfl rfl rfl rfl ⟨rfl, rfl, rfl, rfl, rfl⟩ rfl rfl rfl rfl rfl (by kernel_rfl) Tryd.func4 (by kernel_rfl)
    (of_decide_eq_true (by kernel_rfl)) (by unfold Func.isWrapper; first | (rw [if_pos (by decide +kernel)]; kernel_rfl) | (rw [if_neg (by decide +kernel)]; exact ⟨rfl, rfl⟩))
    (fun os started H enc _ => liftedJ os started H enc)

theorem joinReadsBackAsWords_card : Rows.FnJoinReadsBackAsWordsCardSaid :=
  Claim7.holds_tied_plain_at .later [] [.data, .pinned] true (true, "81352fc9cda96d0fe3c201657211c79c9584fc0467887a8ea4714337ad3838d3") false holdsJ (fun _ h => by cases h) (by kernel_rfl) (fun _ h => by cases h) fnJoinReadsBackAsWords_row_tie rfl ⟨rfl, rfl⟩ (by kernel_rfl) rfl
    (fun f fn hf hfn => by
      obtain rfl : f = 4 := Option.some.inj ((show Tryd.prog.funcNamed Tryd.f4.name = some 4 by kernel_rfl).symm.trans hf) |>.symm
      obtain rfl : fn = Tryd.f4 := (Option.some.inj (Tryd.func4.symm.trans hfn)).symm
      exact ⟨by kernel_rfl, fun j t ht => by
        rw [Tryd.params4] at ht
        have hm : t ∈ [23] := by simpa using Array.mem_of_getElem? ht
        have hall : ([23].all fun u => !Tryd.prog.wantsStandIn u) = true := by kernel_rfl
        exact (show Tryd.prog.wantsStandIn t = false by simpa using List.all_eq_true.1 hall t hm)⟩)
    (by kernel_rfl)
end Go.Proofs.Qxb6600464aDoor
