/-
  NARROWER THAN 'FOR EVERY INPUT', by the rows' own cells (each row's printed sentence says how): FnReadTime4MatchesItsSpecification: laid · FnReadTime4ReadsWhatTime4Prints: laid.
  DERIVED. THE GIVEN ROWS OF THIS SEAT. 4 by the template 'for every input the law returns true; each argument reads behind the call as it read before'; 0 by the template 'total and deterministic' (their statements: Qxb6608910aFmtTotals.lean).
  GIVEN WITH THE SEED: the statements are not yours to turn. If you find one false, say at which input.
  Laid BY PROGRAM, IN A SANDBOX (cutbox-rows.mjs): the forced cells as the released guide's own fill.sh prints them over the translation 3e9aa52405d93d28… (all of the seat's roots in one cut). By AI agents, Wed Nov 11 2026. No macro, syntax, notation, axiom, sorry.
-/
import Derived.Test.Qxb6608910aFmtChecked
import GoSem.PinnedTables
import GoSem.Claim
import GoSem.ClaimJoined
import GoSem.ClaimMapViews
import Derived.JoinedTies
import Derived.KernelRfl
namespace Go.Proofs.Qxb6608910aFmt
/- THE CELL 'sum', in the pinned program and in every row, IS THE sha256 OF THE DUMP (.gsa) THAT Qxb6608910aFmtProg.lean LOADS. Nothing in Lean hashes anything: it is a label: what it is worth is what the hold of that sum in a sandbox is worth. -/
noncomputable def Tryf.pinned : Pinned := { name := "qxb6608910afmt", sum := "3e9aa52405d93d285278f05bc168b9b5c07cec0872f7d819106deebf93f97c4f", checked := Tryf.checked }
namespace Rows
def none {H : Type} : Left H := { results := [], args := [] }

/- WHAT THE LISTED PACKAGE-LEVEL VARIABLES READ AS WHEN THE CALL BEGINS. Each datum BY PROGRAM (the guide's laid-datum.mjs) off the statement by which the dump's own 'gosem.cut.vars' lays the variable. In a bare row this is a premise. The card (Qxb6608910aFmtCards.lean) ties it to the program's text. -/
def laid_unicode_utf8_acceptRanges {H : Type} : DataW H := .agg [.agg [.lit (.int .u8 128), .lit (.int .u8 191)], .agg [.lit (.int .u8 160), .lit (.int .u8 191)], .agg [.lit (.int .u8 128), .lit (.int .u8 159)], .agg [.lit (.int .u8 144), .lit (.int .u8 191)], .agg [.lit (.int .u8 128), .lit (.int .u8 143)], .agg [.lit (.int .u8 0), .lit (.int .u8 0)], .agg [.lit (.int .u8 0), .lit (.int .u8 0)], .agg [.lit (.int .u8 0), .lit (.int .u8 0)], .agg [.lit (.int .u8 0), .lit (.int .u8 0)], .agg [.lit (.int .u8 0), .lit (.int .u8 0)], .agg [.lit (.int .u8 0), .lit (.int .u8 0)], .agg [.lit (.int .u8 0), .lit (.int .u8 0)], .agg [.lit (.int .u8 0), .lit (.int .u8 0)], .agg [.lit (.int .u8 0), .lit (.int .u8 0)], .agg [.lit (.int .u8 0), .lit (.int .u8 0)], .agg [.lit (.int .u8 0), .lit (.int .u8 0)]]
/-- One of Go's own tables, pinned by name: the form's constant. -/
def laid_unicode_utf8_first : DataW Unit := Go.Pinned.utf8First

/-- 'zzlaws_root_b1.FnDayToSecondStringAgreesWithTime': WHATEVER THE INPUT: true; the input reads as it did. -/
def fnDayToSecondStringAgreesWithTimeSpec : ChangeSpec := { name := "fnDayToSecondStringAgreesWithTime", fn := fun _ => fun
  | [d] => { results := [.lit (.bool true)], args := [d] }
  | _ => none }
def fnDayToSecondStringAgreesWithTimeRow : OpenClaim := { program := "qxb6608910afmt", sum := "3e9aa52405d93d285278f05bc168b9b5c07cec0872f7d819106deebf93f97c4f", func := "example.com/tempora/tempora/zzlaws_root_b1.FnDayToSecondStringAgreesWithTime", spec := "fnDayToSecondStringAgreesWithTime", stops := ["fmt.Sprintf, its operands' methods called", "fmt.errorf"], inPlace := ["fmt.errorf", "fmt.Sprintf"], unfollowed := true, recurses := true, apart := false }
/-- NO THEOREM (fmt's text is open here; it may be false): for the released tool's asking of the row's closed facts alone. THE STATEMENT IS 'FnDayToSecondStringAgreesWithTimeToldSaid' (Qxb6608910aFmtCards.lean). -/
def FnDayToSecondStringAgreesWithTimeFormAsk : Prop := fnDayToSecondStringAgreesWithTimeRow.holds Tryf.pinned (OpenSpec.ofChange fnDayToSecondStringAgreesWithTimeSpec)

/-- ITS FALSE NEIGHBOUR: 'it returns false'. Refute it at one input. -/
def fnDayToSecondStringAgreesWithTimeWrong : ChangeSpec := { name := "fnDayToSecondStringAgreesWithTime", fn := fun _ => fun
  | [d] => { results := [.lit (.bool false)], args := [d] }
  | _ => none }
def FnDayToSecondStringAgreesWithTimeWrongFormAsk : Prop := fnDayToSecondStringAgreesWithTimeRow.holds Tryf.pinned (OpenSpec.ofChange fnDayToSecondStringAgreesWithTimeWrong)

/-- 'zzlaws_root_b1.FnDayToSecondStringNegationAndDays': WHATEVER THE INPUT: true; the input reads as it did. -/
def fnDayToSecondStringNegationAndDaysSpec : ChangeSpec := { name := "fnDayToSecondStringNegationAndDays", fn := fun _ => fun
  | [d] => { results := [.lit (.bool true)], args := [d] }
  | _ => none }
def fnDayToSecondStringNegationAndDaysRow : OpenClaim := { program := "qxb6608910afmt", sum := "3e9aa52405d93d285278f05bc168b9b5c07cec0872f7d819106deebf93f97c4f", func := "example.com/tempora/tempora/zzlaws_root_b1.FnDayToSecondStringNegationAndDays", spec := "fnDayToSecondStringNegationAndDays", stops := ["fmt.Sprintf, its operands' methods called", "fmt.errorf"], inPlace := ["fmt.Sprintf"], unfollowed := true, recurses := true, apart := false }
/-- NO THEOREM (fmt's text is open here; it may be false): for the released tool's asking of the row's closed facts alone. THE STATEMENT IS 'FnDayToSecondStringNegationAndDaysToldSaid' (Qxb6608910aFmtCards.lean). -/
def FnDayToSecondStringNegationAndDaysFormAsk : Prop := fnDayToSecondStringNegationAndDaysRow.holds Tryf.pinned (OpenSpec.ofChange fnDayToSecondStringNegationAndDaysSpec)

/-- ITS FALSE NEIGHBOUR: 'it returns false'. Refute it at one input. -/
def fnDayToSecondStringNegationAndDaysWrong : ChangeSpec := { name := "fnDayToSecondStringNegationAndDays", fn := fun _ => fun
  | [d] => { results := [.lit (.bool false)], args := [d] }
  | _ => none }
def FnDayToSecondStringNegationAndDaysWrongFormAsk : Prop := fnDayToSecondStringNegationAndDaysRow.holds Tryf.pinned (OpenSpec.ofChange fnDayToSecondStringNegationAndDaysWrong)

/-- 'zzlaws_root_b1.FnReadTime4MatchesItsSpecification': WHATEVER THE INPUT: true; the input reads as it did. -/
def fnReadTime4MatchesItsSpecificationSpec : ChangeSpec := { name := "fnReadTime4MatchesItsSpecification", fn := fun _ => fun
  | [d] => { results := [.lit (.bool true)], args := [d] }
  | _ => none }
def fnReadTime4MatchesItsSpecificationRow : OpenClaim := { program := "qxb6608910afmt", sum := "3e9aa52405d93d285278f05bc168b9b5c07cec0872f7d819106deebf93f97c4f", func := "example.com/tempora/tempora/zzlaws_root_b1.FnReadTime4MatchesItsSpecification", spec := "fnReadTime4MatchesItsSpecification", stops := ["fmt.Sprintf, its operands' methods called", "fmt.errorf"], inPlace := ["internal/bytealg.IndexByteString", "internal/bytealg.IndexString", "fmt.errorf", "fmt.Sprintf"], unfollowed := true, recurses := true, named := ["unicode/utf8.first", "unicode/utf8.acceptRanges", "internal/bytealg.MaxLen"], apart := false, laid := [("unicode/utf8.acceptRanges", laid_unicode_utf8_acceptRanges), ("unicode/utf8.first", laid_unicode_utf8_first)] }
/-- NO THEOREM (fmt's text is open here; it may be false): for the released tool's asking of the row's closed facts alone. THE STATEMENT IS 'FnReadTime4MatchesItsSpecificationToldSaid' (Qxb6608910aFmtCards.lean). -/
def FnReadTime4MatchesItsSpecificationFormAsk : Prop := fnReadTime4MatchesItsSpecificationRow.holds Tryf.pinned (OpenSpec.ofChange fnReadTime4MatchesItsSpecificationSpec)

/-- ITS FALSE NEIGHBOUR: 'it returns false'. Refute it at one input. -/
def fnReadTime4MatchesItsSpecificationWrong : ChangeSpec := { name := "fnReadTime4MatchesItsSpecification", fn := fun _ => fun
  | [d] => { results := [.lit (.bool false)], args := [d] }
  | _ => none }
def FnReadTime4MatchesItsSpecificationWrongFormAsk : Prop := fnReadTime4MatchesItsSpecificationRow.holds Tryf.pinned (OpenSpec.ofChange fnReadTime4MatchesItsSpecificationWrong)

/-- 'zzlaws_root_b1.FnReadTime4ReadsWhatTime4Prints': WHATEVER THE INPUT: true; the input reads as it did. -/
def fnReadTime4ReadsWhatTime4PrintsSpec : ChangeSpec := { name := "fnReadTime4ReadsWhatTime4Prints", fn := fun _ => fun
  | [d] => { results := [.lit (.bool true)], args := [d] }
  | _ => none }
def fnReadTime4ReadsWhatTime4PrintsRow : OpenClaim := { program := "qxb6608910afmt", sum := "3e9aa52405d93d285278f05bc168b9b5c07cec0872f7d819106deebf93f97c4f", func := "example.com/tempora/tempora/zzlaws_root_b1.FnReadTime4ReadsWhatTime4Prints", spec := "fnReadTime4ReadsWhatTime4Prints", stops := ["fmt.Sprintf, its operands' methods called", "fmt.errorf"], inPlace := ["fmt.Sprintf", "internal/bytealg.IndexByteString", "internal/bytealg.IndexString", "fmt.errorf"], unfollowed := true, recurses := true, named := ["unicode/utf8.first", "unicode/utf8.acceptRanges", "internal/bytealg.MaxLen"], apart := false, laid := [("unicode/utf8.acceptRanges", laid_unicode_utf8_acceptRanges), ("unicode/utf8.first", laid_unicode_utf8_first)] }
/-- NO THEOREM (fmt's text is open here; it may be false): for the released tool's asking of the row's closed facts alone. THE STATEMENT IS 'FnReadTime4ReadsWhatTime4PrintsToldSaid' (Qxb6608910aFmtCards.lean). -/
def FnReadTime4ReadsWhatTime4PrintsFormAsk : Prop := fnReadTime4ReadsWhatTime4PrintsRow.holds Tryf.pinned (OpenSpec.ofChange fnReadTime4ReadsWhatTime4PrintsSpec)

/-- ITS FALSE NEIGHBOUR: 'it returns false'. Refute it at one input. -/
def fnReadTime4ReadsWhatTime4PrintsWrong : ChangeSpec := { name := "fnReadTime4ReadsWhatTime4Prints", fn := fun _ => fun
  | [d] => { results := [.lit (.bool false)], args := [d] }
  | _ => none }
def FnReadTime4ReadsWhatTime4PrintsWrongFormAsk : Prop := fnReadTime4ReadsWhatTime4PrintsRow.holds Tryf.pinned (OpenSpec.ofChange fnReadTime4ReadsWhatTime4PrintsWrong)

end Rows
end Go.Proofs.Qxb6608910aFmt
