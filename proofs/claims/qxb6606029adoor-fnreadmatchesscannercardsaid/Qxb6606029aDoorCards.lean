/-
  DERIVED. GIVEN WITH THE SEED: THE CARDS: each row of Qxb6606029aDoorRows.lean that lists a variable, with what it lists TIED to the program's text (the seventh form; the later family's looks); each row that meets fmt, with fmt's text TOLD by the authors' own Lean function (tested against real Go, not proved from fmt's source: count such statements apart). THE CARD IS WHAT COUNTS. Prove the row's statement (the work); the ties are given (Qxb6606029aDoorTie.lean); close each card by the builder's one call (the guide's Derived/Test/ToyasCard.lean, 'card_holds'). Laid BY PROGRAM, IN A SANDBOX (cutbox-door.mjs). By AI agents, Wed Nov 11 2026. No macro, syntax, notation, axiom, sorry.
-/
import Derived.Test.Qxb6606029aDoorRows
import GoSem.ClaimSeven
namespace Go.Proofs.Qxb6606029aDoor
namespace Rows

/-- THE TIED CARD OF 'zzlaws_internal_decimal_b1.FnPlusAddsExactly'. -/
def fnPlusAddsExactlyCard : Claim7 := { stood := { row := fnPlusAddsExactlyRow, standIns := [], harness := (true, "22086095745cb5fb6515bfab9ae841909c2a7e5bee83476cd693a4385ba16fde"), looks := true }, kinds := [], alts := [], laidByText := true, laidKinds := [.data, .data, .data, .data, .sentinel, .sentinel, .pinned], laidTests := true, laidLooks := .later }
def FnPlusAddsExactlyCardSaid : Prop := Claim7.holds Tryd.pinned (.plain (OpenSpec.ofChange fnPlusAddsExactlySpec)) fnPlusAddsExactlyCard

/-- THE TIED CARD OF 'zzlaws_internal_decimal_b1.FnPlusComposes'. -/
def fnPlusComposesCard : Claim7 := { stood := { row := fnPlusComposesRow, standIns := [], harness := (true, "22086095745cb5fb6515bfab9ae841909c2a7e5bee83476cd693a4385ba16fde"), looks := true }, kinds := [], alts := [], laidByText := true, laidKinds := [.data, .data, .data, .data, .sentinel, .sentinel, .pinned], laidTests := true, laidLooks := .later }
def FnPlusComposesCardSaid : Prop := Claim7.holds Tryd.pinned (.plain (OpenSpec.ofChange fnPlusComposesSpec)) fnPlusComposesCard

/-- THE TIED CARD OF 'zzlaws_internal_decimal_b1.FnReadMatchesScanner'. -/
def fnReadMatchesScannerCard : Claim7 := { stood := { row := fnReadMatchesScannerRow, standIns := [], harness := (true, "22086095745cb5fb6515bfab9ae841909c2a7e5bee83476cd693a4385ba16fde"), looks := true }, kinds := [], alts := [], laidByText := true, laidKinds := [.data, .data, .data, .data, .sentinel, .sentinel, .pinned], laidTests := true, laidLooks := .later }
def FnReadMatchesScannerCardSaid : Prop := Claim7.holds Tryd.pinned (.plain (OpenSpec.ofChange fnReadMatchesScannerSpec)) fnReadMatchesScannerCard

/-- THE TIED CARD OF 'zzlaws_internal_decimal_b1.FnReadInvertsRender'. -/
def fnReadInvertsRenderCard : Claim7 := { stood := { row := fnReadInvertsRenderRow, standIns := [], harness := (true, "22086095745cb5fb6515bfab9ae841909c2a7e5bee83476cd693a4385ba16fde"), looks := true }, kinds := [], alts := [], laidByText := true, laidKinds := [.data, .data, .data, .data, .sentinel, .sentinel, .pinned], laidTests := true, laidLooks := .later }
def FnReadInvertsRenderCardSaid : Prop := Claim7.holds Tryd.pinned (.plain (OpenSpec.ofChange fnReadInvertsRenderSpec)) fnReadInvertsRenderCard
end Rows
end Go.Proofs.Qxb6606029aDoor
