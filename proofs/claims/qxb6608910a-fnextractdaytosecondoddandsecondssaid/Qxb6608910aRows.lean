/-
  No cell of these rows narrows 'for every input' (looked for: loops, veiled, ifaces, maps, wideKeys, modest, calm, conditions, laid).
  DERIVED. THE GIVEN ROWS OF THIS SEAT. 2 by the template 'for every input the law returns true; each argument reads behind the call as it read before'; 0 by the template 'total and deterministic' (their statements: Qxb6608910aTotals.lean).
  GIVEN WITH THE SEED: the statements are not yours to turn. If you find one false, say at which input.
  Laid BY PROGRAM, IN A SANDBOX (cutbox-rows.mjs): the forced cells as the released guide's own fill.sh prints them over the translation 768def1bca1abd27… (all of the seat's roots in one cut). By AI agents, Wed Nov 11 2026. No macro, syntax, notation, axiom, sorry.
-/
import Derived.Test.Qxb6608910aChecked
import GoSem.Claim
import GoSem.ClaimJoined
import GoSem.ClaimMapViews
import Derived.JoinedTies
import Derived.KernelRfl
namespace Go.Proofs.Qxb6608910a
/- THE CELL 'sum', in the pinned program and in every row, IS THE sha256 OF THE DUMP (.gsa) THAT Qxb6608910aProg.lean LOADS. Nothing in Lean hashes anything: it is a label: what it is worth is what the hold of that sum in a sandbox is worth. -/
noncomputable def Try.pinned : Pinned := { name := "qxb6608910a", sum := "768def1bca1abd273ab871ac4df0e222b137e5d1af136c4a9498e20473cd1e9e", checked := Try.checked }
namespace Rows
def none {H : Type} : Left H := { results := [], args := [] }

/-- 'zzlaws_root_b1.FnExtractDayToSecondRebuildsTheSpan': WHATEVER THE INPUT: true; the input reads as it did. -/
def fnExtractDayToSecondRebuildsTheSpanSpec : ChangeSpec := { name := "fnExtractDayToSecondRebuildsTheSpan", fn := fun _ => fun
  | [d1, d2] => { results := [.lit (.bool true)], args := [d1, d2] }
  | _ => none }
def fnExtractDayToSecondRebuildsTheSpanRow : OpenClaim := { program := "qxb6608910a", sum := "768def1bca1abd273ab871ac4df0e222b137e5d1af136c4a9498e20473cd1e9e", func := "example.com/tempora/tempora/zzlaws_root_b1.FnExtractDayToSecondRebuildsTheSpan", spec := "fnExtractDayToSecondRebuildsTheSpan", apart := false }
def FnExtractDayToSecondRebuildsTheSpanSaid : Prop := fnExtractDayToSecondRebuildsTheSpanRow.holds Try.pinned (OpenSpec.ofChange fnExtractDayToSecondRebuildsTheSpanSpec)

/-- ITS FALSE NEIGHBOUR: 'it returns false'. Refute it at one input. -/
def fnExtractDayToSecondRebuildsTheSpanWrong : ChangeSpec := { name := "fnExtractDayToSecondRebuildsTheSpan", fn := fun _ => fun
  | [d1, d2] => { results := [.lit (.bool false)], args := [d1, d2] }
  | _ => none }
def FnExtractDayToSecondRebuildsTheSpanWrongFalsely : Prop := fnExtractDayToSecondRebuildsTheSpanRow.holds Try.pinned (OpenSpec.ofChange fnExtractDayToSecondRebuildsTheSpanWrong)

/-- 'zzlaws_root_b1.FnExtractDayToSecondOddAndSeconds': WHATEVER THE INPUT: true; the input reads as it did. -/
def fnExtractDayToSecondOddAndSecondsSpec : ChangeSpec := { name := "fnExtractDayToSecondOddAndSeconds", fn := fun _ => fun
  | [d1, d2] => { results := [.lit (.bool true)], args := [d1, d2] }
  | _ => none }
def fnExtractDayToSecondOddAndSecondsRow : OpenClaim := { program := "qxb6608910a", sum := "768def1bca1abd273ab871ac4df0e222b137e5d1af136c4a9498e20473cd1e9e", func := "example.com/tempora/tempora/zzlaws_root_b1.FnExtractDayToSecondOddAndSeconds", spec := "fnExtractDayToSecondOddAndSeconds", apart := false }
def FnExtractDayToSecondOddAndSecondsSaid : Prop := fnExtractDayToSecondOddAndSecondsRow.holds Try.pinned (OpenSpec.ofChange fnExtractDayToSecondOddAndSecondsSpec)

/-- ITS FALSE NEIGHBOUR: 'it returns false'. Refute it at one input. -/
def fnExtractDayToSecondOddAndSecondsWrong : ChangeSpec := { name := "fnExtractDayToSecondOddAndSeconds", fn := fun _ => fun
  | [d1, d2] => { results := [.lit (.bool false)], args := [d1, d2] }
  | _ => none }
def FnExtractDayToSecondOddAndSecondsWrongFalsely : Prop := fnExtractDayToSecondOddAndSecondsRow.holds Try.pinned (OpenSpec.ofChange fnExtractDayToSecondOddAndSecondsWrong)

end Rows
end Go.Proofs.Qxb6608910a
