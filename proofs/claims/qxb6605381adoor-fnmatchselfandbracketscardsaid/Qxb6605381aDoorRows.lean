/-
  NARROWER THAN 'FOR EVERY INPUT', by the rows' own cells (each row's printed sentence says how): FnGlobAgreesWithModel: laid · FnGlobSelfAndStarWidens: laid · FnMatchAgreesWithSpec: laid · FnMatchSelfAndBrackets: laid · FnAllowAgreesWithSpec: laid · FnAllowEndRules: laid.
  DERIVED. THE GIVEN ROWS OF THIS SEAT. 6 by the template 'for every input the law returns true; each argument reads behind the call as it read before'; 0 by the template 'total and deterministic' (their statements: Qxb6605381aDoorTotals.lean).
  GIVEN WITH THE SEED: the statements are not yours to turn. If you find one false, say at which input.
  Laid BY PROGRAM, IN A SANDBOX (cutbox-rows.mjs): the forced cells as the released guide's own fill.sh prints them over the translation 558f97853c1bd416… (all of the seat's roots in one cut). By AI agents, Wed Nov 11 2026. No macro, syntax, notation, axiom, sorry.
-/
import Derived.Test.Qxb6605381aDoorChecked
import GoSem.PinnedTables
import GoSem.Claim
import GoSem.ClaimJoined
import GoSem.ClaimMapViews
import Derived.JoinedTies
import Derived.KernelRfl
namespace Go.Proofs.Qxb6605381aDoor
/- THE CELL 'sum', in the pinned program and in every row, IS THE sha256 OF THE DUMP (.gsa) THAT Qxb6605381aDoorProg.lean LOADS. Nothing in Lean hashes anything: it is a label: what it is worth is what the hold of that sum in a sandbox is worth. -/
noncomputable def Tryd.pinned : Pinned := { name := "qxb6605381adoor", sum := "558f97853c1bd41656b706a7f58c886c8d240b0bd5df7f21639b7575de6d0c9c", checked := Tryd.checked }
namespace Rows
def none {H : Type} : Left H := { results := [], args := [] }

/- WHAT THE LISTED PACKAGE-LEVEL VARIABLES READ AS WHEN THE CALL BEGINS. Each datum BY PROGRAM (the guide's laid-datum.mjs) off the statement by which the dump's own 'gosem.cut.vars' lays the variable. In a bare row this is a premise. The card (Qxb6605381aDoorCards.lean) ties it to the program's text. -/
def laid_unicode_utf8_acceptRanges {H : Type} : DataW H := .agg [.agg [.lit (.int .u8 128), .lit (.int .u8 191)], .agg [.lit (.int .u8 160), .lit (.int .u8 191)], .agg [.lit (.int .u8 128), .lit (.int .u8 159)], .agg [.lit (.int .u8 144), .lit (.int .u8 191)], .agg [.lit (.int .u8 128), .lit (.int .u8 143)], .agg [.lit (.int .u8 0), .lit (.int .u8 0)], .agg [.lit (.int .u8 0), .lit (.int .u8 0)], .agg [.lit (.int .u8 0), .lit (.int .u8 0)], .agg [.lit (.int .u8 0), .lit (.int .u8 0)], .agg [.lit (.int .u8 0), .lit (.int .u8 0)], .agg [.lit (.int .u8 0), .lit (.int .u8 0)], .agg [.lit (.int .u8 0), .lit (.int .u8 0)], .agg [.lit (.int .u8 0), .lit (.int .u8 0)], .agg [.lit (.int .u8 0), .lit (.int .u8 0)], .agg [.lit (.int .u8 0), .lit (.int .u8 0)], .agg [.lit (.int .u8 0), .lit (.int .u8 0)]]
/-- One of Go's own tables, pinned by name: the form's constant. -/
def laid_unicode_utf8_first : DataW Unit := Go.Pinned.utf8First

/-- 'zzlaws_internal_itemkey_b1.FnGlobAgreesWithModel': WHATEVER THE INPUT: true; the input reads as it did. -/
def fnGlobAgreesWithModelSpec : ChangeSpec := { name := "fnGlobAgreesWithModel", fn := fun _ => fun
  | [d1, d2] => { results := [.lit (.bool true)], args := [d1, d2] }
  | _ => none }
def fnGlobAgreesWithModelRow : OpenClaim := { program := "qxb6605381adoor", sum := "558f97853c1bd41656b706a7f58c886c8d240b0bd5df7f21639b7575de6d0c9c", func := "example.com/signalpost/signalpost/zzlaws_internal_itemkey_b1.FnGlobAgreesWithModel", spec := "fnGlobAgreesWithModel", inPlace := ["internal/bytealg.IndexByteString", "internal/bytealg.IndexString"], named := ["unicode/utf8.first", "unicode/utf8.acceptRanges", "internal/bytealg.MaxLen"], apart := false, laid := [("unicode/utf8.acceptRanges", laid_unicode_utf8_acceptRanges), ("unicode/utf8.first", laid_unicode_utf8_first)] }
def FnGlobAgreesWithModelSaid : Prop := fnGlobAgreesWithModelRow.holds Tryd.pinned (OpenSpec.ofChange fnGlobAgreesWithModelSpec)

/-- ITS FALSE NEIGHBOUR: 'it returns false'. Refute it at one input. -/
def fnGlobAgreesWithModelWrong : ChangeSpec := { name := "fnGlobAgreesWithModel", fn := fun _ => fun
  | [d1, d2] => { results := [.lit (.bool false)], args := [d1, d2] }
  | _ => none }
def FnGlobAgreesWithModelWrongFalsely : Prop := fnGlobAgreesWithModelRow.holds Tryd.pinned (OpenSpec.ofChange fnGlobAgreesWithModelWrong)

/-- 'zzlaws_internal_itemkey_b1.FnGlobSelfAndStarWidens': WHATEVER THE INPUT: true; the input reads as it did. -/
def fnGlobSelfAndStarWidensSpec : ChangeSpec := { name := "fnGlobSelfAndStarWidens", fn := fun _ => fun
  | [d1, d2, d3] => { results := [.lit (.bool true)], args := [d1, d2, d3] }
  | _ => none }
def fnGlobSelfAndStarWidensRow : OpenClaim := { program := "qxb6605381adoor", sum := "558f97853c1bd41656b706a7f58c886c8d240b0bd5df7f21639b7575de6d0c9c", func := "example.com/signalpost/signalpost/zzlaws_internal_itemkey_b1.FnGlobSelfAndStarWidens", spec := "fnGlobSelfAndStarWidens", inPlace := ["internal/bytealg.IndexByteString", "internal/bytealg.IndexString"], named := ["unicode/utf8.first", "unicode/utf8.acceptRanges", "internal/bytealg.MaxLen"], apart := false, laid := [("unicode/utf8.acceptRanges", laid_unicode_utf8_acceptRanges), ("unicode/utf8.first", laid_unicode_utf8_first)] }
def FnGlobSelfAndStarWidensSaid : Prop := fnGlobSelfAndStarWidensRow.holds Tryd.pinned (OpenSpec.ofChange fnGlobSelfAndStarWidensSpec)

/-- ITS FALSE NEIGHBOUR: 'it returns false'. Refute it at one input. -/
def fnGlobSelfAndStarWidensWrong : ChangeSpec := { name := "fnGlobSelfAndStarWidens", fn := fun _ => fun
  | [d1, d2, d3] => { results := [.lit (.bool false)], args := [d1, d2, d3] }
  | _ => none }
def FnGlobSelfAndStarWidensWrongFalsely : Prop := fnGlobSelfAndStarWidensRow.holds Tryd.pinned (OpenSpec.ofChange fnGlobSelfAndStarWidensWrong)

/-- 'zzlaws_internal_itemkey_b1.FnMatchAgreesWithSpec': WHATEVER THE INPUT: true; the input reads as it did. -/
def fnMatchAgreesWithSpecSpec : ChangeSpec := { name := "fnMatchAgreesWithSpec", fn := fun _ => fun
  | [d1, d2, d3, d4, d5, d6] => { results := [.lit (.bool true)], args := [d1, d2, d3, d4, d5, d6] }
  | _ => none }
def fnMatchAgreesWithSpecRow : OpenClaim := { program := "qxb6605381adoor", sum := "558f97853c1bd41656b706a7f58c886c8d240b0bd5df7f21639b7575de6d0c9c", func := "example.com/signalpost/signalpost/zzlaws_internal_itemkey_b1.FnMatchAgreesWithSpec", spec := "fnMatchAgreesWithSpec", inPlace := ["internal/bytealg.IndexByteString", "internal/bytealg.IndexString"], named := ["unicode/utf8.first", "unicode/utf8.acceptRanges", "internal/bytealg.MaxLen"], apart := false, laid := [("unicode/utf8.acceptRanges", laid_unicode_utf8_acceptRanges), ("unicode/utf8.first", laid_unicode_utf8_first)] }
def FnMatchAgreesWithSpecSaid : Prop := fnMatchAgreesWithSpecRow.holds Tryd.pinned (OpenSpec.ofChange fnMatchAgreesWithSpecSpec)

/-- ITS FALSE NEIGHBOUR: 'it returns false'. Refute it at one input. -/
def fnMatchAgreesWithSpecWrong : ChangeSpec := { name := "fnMatchAgreesWithSpec", fn := fun _ => fun
  | [d1, d2, d3, d4, d5, d6] => { results := [.lit (.bool false)], args := [d1, d2, d3, d4, d5, d6] }
  | _ => none }
def FnMatchAgreesWithSpecWrongFalsely : Prop := fnMatchAgreesWithSpecRow.holds Tryd.pinned (OpenSpec.ofChange fnMatchAgreesWithSpecWrong)

/-- 'zzlaws_internal_itemkey_b1.FnMatchSelfAndBrackets': WHATEVER THE INPUT: true; the input reads as it did. -/
def fnMatchSelfAndBracketsSpec : ChangeSpec := { name := "fnMatchSelfAndBrackets", fn := fun _ => fun
  | [d1, d2] => { results := [.lit (.bool true)], args := [d1, d2] }
  | _ => none }
def fnMatchSelfAndBracketsRow : OpenClaim := { program := "qxb6605381adoor", sum := "558f97853c1bd41656b706a7f58c886c8d240b0bd5df7f21639b7575de6d0c9c", func := "example.com/signalpost/signalpost/zzlaws_internal_itemkey_b1.FnMatchSelfAndBrackets", spec := "fnMatchSelfAndBrackets", inPlace := ["internal/bytealg.IndexByteString", "internal/bytealg.IndexString"], named := ["unicode/utf8.first", "unicode/utf8.acceptRanges", "internal/bytealg.MaxLen"], apart := false, laid := [("unicode/utf8.acceptRanges", laid_unicode_utf8_acceptRanges), ("unicode/utf8.first", laid_unicode_utf8_first)] }
def FnMatchSelfAndBracketsSaid : Prop := fnMatchSelfAndBracketsRow.holds Tryd.pinned (OpenSpec.ofChange fnMatchSelfAndBracketsSpec)

/-- ITS FALSE NEIGHBOUR: 'it returns false'. Refute it at one input. -/
def fnMatchSelfAndBracketsWrong : ChangeSpec := { name := "fnMatchSelfAndBrackets", fn := fun _ => fun
  | [d1, d2] => { results := [.lit (.bool false)], args := [d1, d2] }
  | _ => none }
def FnMatchSelfAndBracketsWrongFalsely : Prop := fnMatchSelfAndBracketsRow.holds Tryd.pinned (OpenSpec.ofChange fnMatchSelfAndBracketsWrong)

/-- 'zzlaws_internal_itemkey_b1.FnAllowAgreesWithSpec': WHATEVER THE INPUT: true; the input reads as it did. -/
def fnAllowAgreesWithSpecSpec : ChangeSpec := { name := "fnAllowAgreesWithSpec", fn := fun _ => fun
  | [d1, d2, d3] => { results := [.lit (.bool true)], args := [d1, d2, d3] }
  | _ => none }
def fnAllowAgreesWithSpecRow : OpenClaim := { program := "qxb6605381adoor", sum := "558f97853c1bd41656b706a7f58c886c8d240b0bd5df7f21639b7575de6d0c9c", func := "example.com/signalpost/signalpost/zzlaws_internal_itemkey_b1.FnAllowAgreesWithSpec", spec := "fnAllowAgreesWithSpec", inPlace := ["internal/bytealg.IndexByteString", "internal/bytealg.IndexString"], named := ["unicode/utf8.first", "unicode/utf8.acceptRanges", "internal/bytealg.MaxLen"], apart := false, laid := [("unicode/utf8.acceptRanges", laid_unicode_utf8_acceptRanges), ("unicode/utf8.first", laid_unicode_utf8_first)] }
def FnAllowAgreesWithSpecSaid : Prop := fnAllowAgreesWithSpecRow.holds Tryd.pinned (OpenSpec.ofChange fnAllowAgreesWithSpecSpec)

/-- ITS FALSE NEIGHBOUR: 'it returns false'. Refute it at one input. -/
def fnAllowAgreesWithSpecWrong : ChangeSpec := { name := "fnAllowAgreesWithSpec", fn := fun _ => fun
  | [d1, d2, d3] => { results := [.lit (.bool false)], args := [d1, d2, d3] }
  | _ => none }
def FnAllowAgreesWithSpecWrongFalsely : Prop := fnAllowAgreesWithSpecRow.holds Tryd.pinned (OpenSpec.ofChange fnAllowAgreesWithSpecWrong)

/-- 'zzlaws_internal_itemkey_b1.FnAllowEndRules': WHATEVER THE INPUT: true; the input reads as it did. -/
def fnAllowEndRulesSpec : ChangeSpec := { name := "fnAllowEndRules", fn := fun _ => fun
  | [d1, d2, d3, d4] => { results := [.lit (.bool true)], args := [d1, d2, d3, d4] }
  | _ => none }
def fnAllowEndRulesRow : OpenClaim := { program := "qxb6605381adoor", sum := "558f97853c1bd41656b706a7f58c886c8d240b0bd5df7f21639b7575de6d0c9c", func := "example.com/signalpost/signalpost/zzlaws_internal_itemkey_b1.FnAllowEndRules", spec := "fnAllowEndRules", inPlace := ["internal/bytealg.IndexByteString", "internal/bytealg.IndexString"], named := ["unicode/utf8.first", "unicode/utf8.acceptRanges", "internal/bytealg.MaxLen"], apart := false, laid := [("unicode/utf8.acceptRanges", laid_unicode_utf8_acceptRanges), ("unicode/utf8.first", laid_unicode_utf8_first)] }
def FnAllowEndRulesSaid : Prop := fnAllowEndRulesRow.holds Tryd.pinned (OpenSpec.ofChange fnAllowEndRulesSpec)

/-- ITS FALSE NEIGHBOUR: 'it returns false'. Refute it at one input. -/
def fnAllowEndRulesWrong : ChangeSpec := { name := "fnAllowEndRules", fn := fun _ => fun
  | [d1, d2, d3, d4] => { results := [.lit (.bool false)], args := [d1, d2, d3, d4] }
  | _ => none }
def FnAllowEndRulesWrongFalsely : Prop := fnAllowEndRulesRow.holds Tryd.pinned (OpenSpec.ofChange fnAllowEndRulesWrong)

end Rows
end Go.Proofs.Qxb6605381aDoor
