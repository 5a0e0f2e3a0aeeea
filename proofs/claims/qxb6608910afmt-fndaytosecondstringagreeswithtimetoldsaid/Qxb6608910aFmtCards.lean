/-
  DERIVED. GIVEN WITH THE SEED: THE CARDS: each row of Qxb6608910aFmtRows.lean that lists a variable, with what it lists TIED to the program's text (the seventh form; the later family's looks); each row that meets fmt, with fmt's text TOLD by the authors' own Lean function (tested against real Go, not proved from fmt's source: count such statements apart). THE CARD IS WHAT COUNTS. Prove the row's statement (the work); the ties are given (Qxb6608910aFmtTie.lean); close each card by the builder's one call (the guide's Derived/Test/ToyasCard.lean, 'card_holds'). Laid BY PROGRAM, IN A SANDBOX (cutbox-door.mjs). By AI agents, Wed Nov 11 2026. No macro, syntax, notation, axiom, sorry.
-/
import Derived.Test.Qxb6608910aFmtRows
import GoSem.ClaimSeven
namespace Go.Proofs.Qxb6608910aFmt
namespace Rows

/-- THE TOLD CARD OF 'zzlaws_root_b1.FnDayToSecondStringAgreesWithTime'. -/
def fnDayToSecondStringAgreesWithTimeCard : Claim7 := { stood := { row := fnDayToSecondStringAgreesWithTimeRow, standIns := [], harness := (true, "416f7f60edeeaa86b9e198fd55a97014087396dd308433c634425c060d4f885b"), looks := true }, told := true, goes := false }
def FnDayToSecondStringAgreesWithTimeToldSaid : Prop := Claim7.holds Tryf.pinned (.plain (OpenSpec.ofChange fnDayToSecondStringAgreesWithTimeSpec)) fnDayToSecondStringAgreesWithTimeCard
/-- ITS FALSE NEIGHBOUR. Refute it at one input. -/
def FnDayToSecondStringAgreesWithTimeToldWrongFalsely : Prop := Claim7.holds Tryf.pinned (.plain (OpenSpec.ofChange fnDayToSecondStringAgreesWithTimeWrong)) fnDayToSecondStringAgreesWithTimeCard

/-- THE TOLD CARD OF 'zzlaws_root_b1.FnDayToSecondStringNegationAndDays'. -/
def fnDayToSecondStringNegationAndDaysCard : Claim7 := { stood := { row := fnDayToSecondStringNegationAndDaysRow, standIns := [], harness := (true, "416f7f60edeeaa86b9e198fd55a97014087396dd308433c634425c060d4f885b"), looks := true }, told := true, goes := false }
def FnDayToSecondStringNegationAndDaysToldSaid : Prop := Claim7.holds Tryf.pinned (.plain (OpenSpec.ofChange fnDayToSecondStringNegationAndDaysSpec)) fnDayToSecondStringNegationAndDaysCard
/-- ITS FALSE NEIGHBOUR. Refute it at one input. -/
def FnDayToSecondStringNegationAndDaysToldWrongFalsely : Prop := Claim7.holds Tryf.pinned (.plain (OpenSpec.ofChange fnDayToSecondStringNegationAndDaysWrong)) fnDayToSecondStringNegationAndDaysCard

/-- THE TOLD AND TIED CARD OF 'zzlaws_root_b1.FnReadTime4MatchesItsSpecification'. -/
def fnReadTime4MatchesItsSpecificationCard : Claim7 := { stood := { row := fnReadTime4MatchesItsSpecificationRow, standIns := [], harness := (true, "416f7f60edeeaa86b9e198fd55a97014087396dd308433c634425c060d4f885b"), looks := true }, told := true, laidByText := true, laidKinds := [.data, .pinned], laidTests := true, laidLooks := .later, goes := false }
def FnReadTime4MatchesItsSpecificationToldSaid : Prop := Claim7.holds Tryf.pinned (.plain (OpenSpec.ofChange fnReadTime4MatchesItsSpecificationSpec)) fnReadTime4MatchesItsSpecificationCard
/-- ITS FALSE NEIGHBOUR. Refute it at one input. -/
def FnReadTime4MatchesItsSpecificationToldWrongFalsely : Prop := Claim7.holds Tryf.pinned (.plain (OpenSpec.ofChange fnReadTime4MatchesItsSpecificationWrong)) fnReadTime4MatchesItsSpecificationCard

/-- THE TOLD AND TIED CARD OF 'zzlaws_root_b1.FnReadTime4ReadsWhatTime4Prints'. -/
def fnReadTime4ReadsWhatTime4PrintsCard : Claim7 := { stood := { row := fnReadTime4ReadsWhatTime4PrintsRow, standIns := [], harness := (true, "416f7f60edeeaa86b9e198fd55a97014087396dd308433c634425c060d4f885b"), looks := true }, told := true, laidByText := true, laidKinds := [.data, .pinned], laidTests := true, laidLooks := .later, goes := false }
def FnReadTime4ReadsWhatTime4PrintsToldSaid : Prop := Claim7.holds Tryf.pinned (.plain (OpenSpec.ofChange fnReadTime4ReadsWhatTime4PrintsSpec)) fnReadTime4ReadsWhatTime4PrintsCard
/-- ITS FALSE NEIGHBOUR. Refute it at one input. -/
def FnReadTime4ReadsWhatTime4PrintsToldWrongFalsely : Prop := Claim7.holds Tryf.pinned (.plain (OpenSpec.ofChange fnReadTime4ReadsWhatTime4PrintsWrong)) fnReadTime4ReadsWhatTime4PrintsCard
end Rows
end Go.Proofs.Qxb6608910aFmt
