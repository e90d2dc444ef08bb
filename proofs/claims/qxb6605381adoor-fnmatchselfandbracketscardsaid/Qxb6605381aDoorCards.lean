/-
  DERIVED. GIVEN WITH THE SEED: THE CARDS: each row of Qxb6605381aDoorRows.lean that lists a variable, with what it lists TIED to the program's text (the seventh form; the later family's looks); each row that meets fmt, with fmt's text TOLD by the authors' own Lean function (tested against real Go, not proved from fmt's source: count such statements apart). THE CARD IS WHAT COUNTS. Prove the row's statement (the work); the ties are given (Qxb6605381aDoorTie.lean); close each card by the builder's one call (the guide's Derived/Test/ToyasCard.lean, 'card_holds'). Laid BY PROGRAM, IN A SANDBOX (cutbox-door.mjs). By AI agents, Wed Nov 11 2026. No macro, syntax, notation, axiom, sorry.
-/
import Derived.Test.Qxb6605381aDoorRows
import GoSem.ClaimSeven
namespace Go.Proofs.Qxb6605381aDoor
namespace Rows

/-- THE TIED CARD OF 'zzlaws_internal_itemkey_b1.FnGlobAgreesWithModel'. -/
def fnGlobAgreesWithModelCard : Claim7 := { stood := { row := fnGlobAgreesWithModelRow, standIns := [], harness := (true, "611d47dc6be6a5e55baaaadd6616bc4cfcc2ba97c4bd3510f979e01afa7fa7c8"), looks := false }, kinds := [], alts := [], laidByText := true, laidKinds := [.data, .pinned], laidTests := true, laidLooks := .later }
def FnGlobAgreesWithModelCardSaid : Prop := Claim7.holds Tryd.pinned (.plain (OpenSpec.ofChange fnGlobAgreesWithModelSpec)) fnGlobAgreesWithModelCard

/-- THE TIED CARD OF 'zzlaws_internal_itemkey_b1.FnGlobSelfAndStarWidens'. -/
def fnGlobSelfAndStarWidensCard : Claim7 := { stood := { row := fnGlobSelfAndStarWidensRow, standIns := [], harness := (true, "611d47dc6be6a5e55baaaadd6616bc4cfcc2ba97c4bd3510f979e01afa7fa7c8"), looks := false }, kinds := [], alts := [], laidByText := true, laidKinds := [.data, .pinned], laidTests := true, laidLooks := .later }
def FnGlobSelfAndStarWidensCardSaid : Prop := Claim7.holds Tryd.pinned (.plain (OpenSpec.ofChange fnGlobSelfAndStarWidensSpec)) fnGlobSelfAndStarWidensCard

/-- THE TIED CARD OF 'zzlaws_internal_itemkey_b1.FnMatchAgreesWithSpec'. -/
def fnMatchAgreesWithSpecCard : Claim7 := { stood := { row := fnMatchAgreesWithSpecRow, standIns := [], harness := (true, "611d47dc6be6a5e55baaaadd6616bc4cfcc2ba97c4bd3510f979e01afa7fa7c8"), looks := false }, kinds := [], alts := [], laidByText := true, laidKinds := [.data, .pinned], laidTests := true, laidLooks := .later }
def FnMatchAgreesWithSpecCardSaid : Prop := Claim7.holds Tryd.pinned (.plain (OpenSpec.ofChange fnMatchAgreesWithSpecSpec)) fnMatchAgreesWithSpecCard

/-- THE TIED CARD OF 'zzlaws_internal_itemkey_b1.FnMatchSelfAndBrackets'. -/
def fnMatchSelfAndBracketsCard : Claim7 := { stood := { row := fnMatchSelfAndBracketsRow, standIns := [], harness := (true, "611d47dc6be6a5e55baaaadd6616bc4cfcc2ba97c4bd3510f979e01afa7fa7c8"), looks := false }, kinds := [], alts := [], laidByText := true, laidKinds := [.data, .pinned], laidTests := true, laidLooks := .later }
def FnMatchSelfAndBracketsCardSaid : Prop := Claim7.holds Tryd.pinned (.plain (OpenSpec.ofChange fnMatchSelfAndBracketsSpec)) fnMatchSelfAndBracketsCard

/-- THE TIED CARD OF 'zzlaws_internal_itemkey_b1.FnAllowAgreesWithSpec'. -/
def fnAllowAgreesWithSpecCard : Claim7 := { stood := { row := fnAllowAgreesWithSpecRow, standIns := [], harness := (true, "611d47dc6be6a5e55baaaadd6616bc4cfcc2ba97c4bd3510f979e01afa7fa7c8"), looks := false }, kinds := [], alts := [], laidByText := true, laidKinds := [.data, .pinned], laidTests := true, laidLooks := .later }
def FnAllowAgreesWithSpecCardSaid : Prop := Claim7.holds Tryd.pinned (.plain (OpenSpec.ofChange fnAllowAgreesWithSpecSpec)) fnAllowAgreesWithSpecCard

/-- THE TIED CARD OF 'zzlaws_internal_itemkey_b1.FnAllowEndRules'. -/
def fnAllowEndRulesCard : Claim7 := { stood := { row := fnAllowEndRulesRow, standIns := [], harness := (true, "611d47dc6be6a5e55baaaadd6616bc4cfcc2ba97c4bd3510f979e01afa7fa7c8"), looks := false }, kinds := [], alts := [], laidByText := true, laidKinds := [.data, .pinned], laidTests := true, laidLooks := .later }
def FnAllowEndRulesCardSaid : Prop := Claim7.holds Tryd.pinned (.plain (OpenSpec.ofChange fnAllowEndRulesSpec)) fnAllowEndRulesCard
end Rows
end Go.Proofs.Qxb6605381aDoor
