/-
  NARROWER THAN 'FOR EVERY INPUT', by the rows' own cells (each row's printed sentence says how): FnQuoteReadsBackAsOneWord: laid · FnJoinReadsBackAsWords: laid · FnJoinOfConcatenation: laid · FnQuoteWritesNoControlByte: laid.
  DERIVED. THE GIVEN ROWS OF THIS SEAT. 4 by the template 'for every input the law returns true; each argument reads behind the call as it read before'; 0 by the template 'total and deterministic' (their statements: Qxb6600464aDoorTotals.lean).
  GIVEN WITH THE SEED: the statements are not yours to turn. If you find one false, say at which input.
  Laid BY PROGRAM, IN A SANDBOX (cutbox-rows.mjs): the forced cells as the released guide's own fill.sh prints them over the translation ffa4de924b9b840e… (all of the seat's roots in one cut). By AI agents, Wed Nov 11 2026. No macro, syntax, notation, axiom, sorry.
-/
import Derived.Test.Qxb6600464aDoorChecked
import GoSem.PinnedTables
import GoSem.Claim
import GoSem.ClaimJoined
import GoSem.ClaimMapViews
import Derived.JoinedTies
import Derived.KernelRfl
namespace Go.Proofs.Qxb6600464aDoor
/- THE CELL 'sum', in the pinned program and in every row, IS THE sha256 OF THE DUMP (.gsa) THAT Qxb6600464aDoorProg.lean LOADS. Nothing in Lean hashes anything: it is a label: what it is worth is what the hold of that sum in a sandbox is worth. -/
noncomputable def Tryd.pinned : Pinned := { name := "qxb6600464adoor", sum := "ffa4de924b9b840ee2404e3847def93ed83201251923a2f448871e49e154e1cf", checked := Tryd.checked }
namespace Rows
def none {H : Type} : Left H := { results := [], args := [] }

/- WHAT THE LISTED PACKAGE-LEVEL VARIABLES READ AS WHEN THE CALL BEGINS. Each datum BY PROGRAM (the guide's laid-datum.mjs) off the statement by which the dump's own 'gosem.cut.vars' lays the variable. In a bare row this is a premise. The card (Qxb6600464aDoorCards.lean) ties it to the program's text. -/
def laid_unicode_utf8_acceptRanges {H : Type} : DataW H := .agg [.agg [.lit (.int .u8 128), .lit (.int .u8 191)], .agg [.lit (.int .u8 160), .lit (.int .u8 191)], .agg [.lit (.int .u8 128), .lit (.int .u8 159)], .agg [.lit (.int .u8 144), .lit (.int .u8 191)], .agg [.lit (.int .u8 128), .lit (.int .u8 143)], .agg [.lit (.int .u8 0), .lit (.int .u8 0)], .agg [.lit (.int .u8 0), .lit (.int .u8 0)], .agg [.lit (.int .u8 0), .lit (.int .u8 0)], .agg [.lit (.int .u8 0), .lit (.int .u8 0)], .agg [.lit (.int .u8 0), .lit (.int .u8 0)], .agg [.lit (.int .u8 0), .lit (.int .u8 0)], .agg [.lit (.int .u8 0), .lit (.int .u8 0)], .agg [.lit (.int .u8 0), .lit (.int .u8 0)], .agg [.lit (.int .u8 0), .lit (.int .u8 0)], .agg [.lit (.int .u8 0), .lit (.int .u8 0)], .agg [.lit (.int .u8 0), .lit (.int .u8 0)]]
/-- One of Go's own tables, pinned by name: the form's constant. -/
def laid_unicode_utf8_first : DataW Unit := Go.Pinned.utf8First

/-- 'zzlaws_internal_shellwords_b1.FnQuoteReadsBackAsOneWord': WHATEVER THE INPUT: true; the input reads as it did. -/
def fnQuoteReadsBackAsOneWordSpec : ChangeSpec := { name := "fnQuoteReadsBackAsOneWord", fn := fun _ => fun
  | [d] => { results := [.lit (.bool true)], args := [d] }
  | _ => none }
def fnQuoteReadsBackAsOneWordRow : OpenClaim := { program := "qxb6600464adoor", sum := "ffa4de924b9b840ee2404e3847def93ed83201251923a2f448871e49e154e1cf", func := "example.com/planwright/planwright/zzlaws_internal_shellwords_b1.FnQuoteReadsBackAsOneWord", spec := "fnQuoteReadsBackAsOneWord", inPlace := ["internal/bytealg.IndexByteString", "internal/bytealg.IndexString", "internal/bytealg.CountString", "internal/abi.NoEscape", "internal/bytealg.MakeNoZero"], unfollowed := true, recurses := true, named := ["internal/bytealg.MaxLen", "unicode/utf8.first", "unicode/utf8.acceptRanges"], apart := false, laid := [("unicode/utf8.acceptRanges", laid_unicode_utf8_acceptRanges), ("unicode/utf8.first", laid_unicode_utf8_first)] }
def FnQuoteReadsBackAsOneWordSaid : Prop := fnQuoteReadsBackAsOneWordRow.holds Tryd.pinned (OpenSpec.ofChange fnQuoteReadsBackAsOneWordSpec)

/-- ITS FALSE NEIGHBOUR: 'it returns false'. Refute it at one input. -/
def fnQuoteReadsBackAsOneWordWrong : ChangeSpec := { name := "fnQuoteReadsBackAsOneWord", fn := fun _ => fun
  | [d] => { results := [.lit (.bool false)], args := [d] }
  | _ => none }
def FnQuoteReadsBackAsOneWordWrongFalsely : Prop := fnQuoteReadsBackAsOneWordRow.holds Tryd.pinned (OpenSpec.ofChange fnQuoteReadsBackAsOneWordWrong)

/-- 'zzlaws_internal_shellwords_b1.FnJoinReadsBackAsWords': WHATEVER THE INPUT: true; the input reads as it did. -/
def fnJoinReadsBackAsWordsSpec : ChangeSpec := { name := "fnJoinReadsBackAsWords", fn := fun _ => fun
  | [d] => { results := [.lit (.bool true)], args := [d] }
  | _ => none }
def fnJoinReadsBackAsWordsRow : OpenClaim := { program := "qxb6600464adoor", sum := "ffa4de924b9b840ee2404e3847def93ed83201251923a2f448871e49e154e1cf", func := "example.com/planwright/planwright/zzlaws_internal_shellwords_b1.FnJoinReadsBackAsWords", spec := "fnJoinReadsBackAsWords", inPlace := ["internal/bytealg.IndexByteString", "internal/bytealg.IndexString", "internal/bytealg.CountString", "internal/abi.NoEscape", "internal/bytealg.MakeNoZero"], unfollowed := true, recurses := true, named := ["internal/bytealg.MaxLen", "unicode/utf8.first", "unicode/utf8.acceptRanges"], apart := false, laid := [("unicode/utf8.acceptRanges", laid_unicode_utf8_acceptRanges), ("unicode/utf8.first", laid_unicode_utf8_first)] }
def FnJoinReadsBackAsWordsSaid : Prop := fnJoinReadsBackAsWordsRow.holds Tryd.pinned (OpenSpec.ofChange fnJoinReadsBackAsWordsSpec)

/-- ITS FALSE NEIGHBOUR: 'it returns false'. Refute it at one input. -/
def fnJoinReadsBackAsWordsWrong : ChangeSpec := { name := "fnJoinReadsBackAsWords", fn := fun _ => fun
  | [d] => { results := [.lit (.bool false)], args := [d] }
  | _ => none }
def FnJoinReadsBackAsWordsWrongFalsely : Prop := fnJoinReadsBackAsWordsRow.holds Tryd.pinned (OpenSpec.ofChange fnJoinReadsBackAsWordsWrong)

/-- 'zzlaws_internal_shellwords_b1.FnJoinOfConcatenation': WHATEVER THE INPUT: true; the input reads as it did. -/
def fnJoinOfConcatenationSpec : ChangeSpec := { name := "fnJoinOfConcatenation", fn := fun _ => fun
  | [d1, d2] => { results := [.lit (.bool true)], args := [d1, d2] }
  | _ => none }
def fnJoinOfConcatenationRow : OpenClaim := { program := "qxb6600464adoor", sum := "ffa4de924b9b840ee2404e3847def93ed83201251923a2f448871e49e154e1cf", func := "example.com/planwright/planwright/zzlaws_internal_shellwords_b1.FnJoinOfConcatenation", spec := "fnJoinOfConcatenation", inPlace := ["internal/bytealg.IndexByteString", "internal/bytealg.IndexString", "internal/bytealg.CountString", "internal/abi.NoEscape", "internal/bytealg.MakeNoZero"], unfollowed := true, recurses := true, named := ["internal/bytealg.MaxLen", "unicode/utf8.first", "unicode/utf8.acceptRanges"], apart := false, laid := [("unicode/utf8.acceptRanges", laid_unicode_utf8_acceptRanges), ("unicode/utf8.first", laid_unicode_utf8_first)] }
def FnJoinOfConcatenationSaid : Prop := fnJoinOfConcatenationRow.holds Tryd.pinned (OpenSpec.ofChange fnJoinOfConcatenationSpec)

/-- ITS FALSE NEIGHBOUR: 'it returns false'. Refute it at one input. -/
def fnJoinOfConcatenationWrong : ChangeSpec := { name := "fnJoinOfConcatenation", fn := fun _ => fun
  | [d1, d2] => { results := [.lit (.bool false)], args := [d1, d2] }
  | _ => none }
def FnJoinOfConcatenationWrongFalsely : Prop := fnJoinOfConcatenationRow.holds Tryd.pinned (OpenSpec.ofChange fnJoinOfConcatenationWrong)

/-- 'zzlaws_internal_shellwords_b1.FnQuoteWritesNoControlByte': WHATEVER THE INPUT: true; the input reads as it did. -/
def fnQuoteWritesNoControlByteSpec : ChangeSpec := { name := "fnQuoteWritesNoControlByte", fn := fun _ => fun
  | [d] => { results := [.lit (.bool true)], args := [d] }
  | _ => none }
def fnQuoteWritesNoControlByteRow : OpenClaim := { program := "qxb6600464adoor", sum := "ffa4de924b9b840ee2404e3847def93ed83201251923a2f448871e49e154e1cf", func := "example.com/planwright/planwright/zzlaws_internal_shellwords_b1.FnQuoteWritesNoControlByte", spec := "fnQuoteWritesNoControlByte", inPlace := ["internal/bytealg.IndexByteString", "internal/bytealg.IndexString", "internal/bytealg.CountString", "internal/abi.NoEscape", "internal/bytealg.MakeNoZero"], unfollowed := true, recurses := true, named := ["internal/bytealg.MaxLen", "unicode/utf8.first", "unicode/utf8.acceptRanges"], apart := false, laid := [("unicode/utf8.acceptRanges", laid_unicode_utf8_acceptRanges), ("unicode/utf8.first", laid_unicode_utf8_first)] }
def FnQuoteWritesNoControlByteSaid : Prop := fnQuoteWritesNoControlByteRow.holds Tryd.pinned (OpenSpec.ofChange fnQuoteWritesNoControlByteSpec)

/-- ITS FALSE NEIGHBOUR: 'it returns false'. Refute it at one input. -/
def fnQuoteWritesNoControlByteWrong : ChangeSpec := { name := "fnQuoteWritesNoControlByte", fn := fun _ => fun
  | [d] => { results := [.lit (.bool false)], args := [d] }
  | _ => none }
def FnQuoteWritesNoControlByteWrongFalsely : Prop := fnQuoteWritesNoControlByteRow.holds Tryd.pinned (OpenSpec.ofChange fnQuoteWritesNoControlByteWrong)

end Rows
end Go.Proofs.Qxb6600464aDoor
