/-
  DERIVED. GIVEN WITH THE SEED: THE CARDS: each row of Qxb6600464aDoorRows.lean that lists a variable, with what it lists TIED to the program's text (the seventh form; the later family's looks); each row that meets fmt, with fmt's text TOLD by the authors' own Lean function (tested against real Go, not proved from fmt's source: count such statements apart). THE CARD IS WHAT COUNTS. Prove the row's statement (the work); the ties are given (Qxb6600464aDoorTie.lean); close each card by the builder's one call (the guide's Derived/Test/ToyasCard.lean, 'card_holds'). Laid BY PROGRAM, IN A SANDBOX (cutbox-door.mjs). By AI agents, Wed Nov 11 2026. No macro, syntax, notation, axiom, sorry.
-/
import Derived.Test.Qxb6600464aDoorRows
import GoSem.ClaimSeven
namespace Go.Proofs.Qxb6600464aDoor
namespace Rows

/-- THE TIED CARD OF 'zzlaws_internal_shellwords_b1.FnQuoteReadsBackAsOneWord'. -/
def fnQuoteReadsBackAsOneWordCard : Claim7 := { stood := { row := fnQuoteReadsBackAsOneWordRow, standIns := [], harness := (true, "81352fc9cda96d0fe3c201657211c79c9584fc0467887a8ea4714337ad3838d3"), looks := false }, kinds := [], alts := [], laidByText := true, laidKinds := [.data, .pinned], laidTests := true, laidLooks := .later }
def FnQuoteReadsBackAsOneWordCardSaid : Prop := Claim7.holds Tryd.pinned (.plain (OpenSpec.ofChange fnQuoteReadsBackAsOneWordSpec)) fnQuoteReadsBackAsOneWordCard

/-- THE TIED CARD OF 'zzlaws_internal_shellwords_b1.FnJoinReadsBackAsWords'. -/
def fnJoinReadsBackAsWordsCard : Claim7 := { stood := { row := fnJoinReadsBackAsWordsRow, standIns := [], harness := (true, "81352fc9cda96d0fe3c201657211c79c9584fc0467887a8ea4714337ad3838d3"), looks := false }, kinds := [], alts := [], laidByText := true, laidKinds := [.data, .pinned], laidTests := true, laidLooks := .later }
def FnJoinReadsBackAsWordsCardSaid : Prop := Claim7.holds Tryd.pinned (.plain (OpenSpec.ofChange fnJoinReadsBackAsWordsSpec)) fnJoinReadsBackAsWordsCard

/-- THE TIED CARD OF 'zzlaws_internal_shellwords_b1.FnJoinOfConcatenation'. -/
def fnJoinOfConcatenationCard : Claim7 := { stood := { row := fnJoinOfConcatenationRow, standIns := [], harness := (true, "81352fc9cda96d0fe3c201657211c79c9584fc0467887a8ea4714337ad3838d3"), looks := false }, kinds := [], alts := [], laidByText := true, laidKinds := [.data, .pinned], laidTests := true, laidLooks := .later }
def FnJoinOfConcatenationCardSaid : Prop := Claim7.holds Tryd.pinned (.plain (OpenSpec.ofChange fnJoinOfConcatenationSpec)) fnJoinOfConcatenationCard

/-- THE TIED CARD OF 'zzlaws_internal_shellwords_b1.FnQuoteWritesNoControlByte'. -/
def fnQuoteWritesNoControlByteCard : Claim7 := { stood := { row := fnQuoteWritesNoControlByteRow, standIns := [], harness := (true, "81352fc9cda96d0fe3c201657211c79c9584fc0467887a8ea4714337ad3838d3"), looks := false }, kinds := [], alts := [], laidByText := true, laidKinds := [.data, .pinned], laidTests := true, laidLooks := .later }
def FnQuoteWritesNoControlByteCardSaid : Prop := Claim7.holds Tryd.pinned (.plain (OpenSpec.ofChange fnQuoteWritesNoControlByteSpec)) fnQuoteWritesNoControlByteCard
end Rows
end Go.Proofs.Qxb6600464aDoor
