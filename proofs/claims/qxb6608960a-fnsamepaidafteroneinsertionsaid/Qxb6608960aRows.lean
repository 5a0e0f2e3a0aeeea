/-
  No cell of these rows narrows 'for every input' (looked for: loops, veiled, ifaces, maps, wideKeys, modest, calm, conditions, laid).
  DERIVED. THE GIVEN ROWS OF THIS SEAT. 5 by the template 'for every input the law returns true; each argument reads behind the call as it read before'; 0 by the template 'total and deterministic' (their statements: Qxb6608960aTotals.lean).
  GIVEN WITH THE SEED: the statements are not yours to turn. If you find one false, say at which input.
  Laid BY PROGRAM, IN A SANDBOX (cutbox-rows.mjs): the forced cells as the released guide's own fill.sh prints them over the translation 7b5d55dffadec179… (all of the seat's roots in one cut). By AI agents, Wed Nov 11 2026. No macro, syntax, notation, axiom, sorry.
-/
import Derived.Test.Qxb6608960aChecked
import GoSem.Claim
import GoSem.ClaimJoined
import GoSem.ClaimMapViews
import Derived.JoinedTies
import Derived.KernelRfl
namespace Go.Proofs.Qxb6608960a
/- THE CELL 'sum', in the pinned program and in every row, IS THE sha256 OF THE DUMP (.gsa) THAT Qxb6608960aProg.lean LOADS. Nothing in Lean hashes anything: it is a label: what it is worth is what the hold of that sum in a sandbox is worth. -/
noncomputable def Try.pinned : Pinned := { name := "qxb6608960a", sum := "7b5d55dffadec1793063001d67feba2de13d02430941f65d9f21f31142ab62d6", checked := Try.checked }
namespace Rows
def none {H : Type} : Left H := { results := [], args := [] }

/-- 'zzlaws_internal_credit_b1.FnHoldsEmployerAmountMirrorsEmployeePays': WHATEVER THE INPUT: true; the input reads as it did. -/
def fnHoldsEmployerAmountMirrorsEmployeePaysSpec : ChangeSpec := { name := "fnHoldsEmployerAmountMirrorsEmployeePays", fn := fun _ => fun
  | [d1, d2] => { results := [.lit (.bool true)], args := [d1, d2] }
  | _ => none }
def fnHoldsEmployerAmountMirrorsEmployeePaysRow : OpenClaim := { program := "qxb6608960a", sum := "7b5d55dffadec1793063001d67feba2de13d02430941f65d9f21f31142ab62d6", func := "example.com/hearthcredit/hearthcredit/zzlaws_internal_credit_b1.FnHoldsEmployerAmountMirrorsEmployeePays", spec := "fnHoldsEmployerAmountMirrorsEmployeePays", apart := false }
def FnHoldsEmployerAmountMirrorsEmployeePaysSaid : Prop := fnHoldsEmployerAmountMirrorsEmployeePaysRow.holds Try.pinned (OpenSpec.ofChange fnHoldsEmployerAmountMirrorsEmployeePaysSpec)

/-- ITS FALSE NEIGHBOUR: 'it returns false'. Refute it at one input. -/
def fnHoldsEmployerAmountMirrorsEmployeePaysWrong : ChangeSpec := { name := "fnHoldsEmployerAmountMirrorsEmployeePays", fn := fun _ => fun
  | [d1, d2] => { results := [.lit (.bool false)], args := [d1, d2] }
  | _ => none }
def FnHoldsEmployerAmountMirrorsEmployeePaysWrongFalsely : Prop := fnHoldsEmployerAmountMirrorsEmployeePaysRow.holds Try.pinned (OpenSpec.ofChange fnHoldsEmployerAmountMirrorsEmployeePaysWrong)

/-- 'zzlaws_internal_credit_b1.FnSamePremiumMatchesSpreadAndAnyCut': WHATEVER THE INPUT: true; the input reads as it did. -/
def fnSamePremiumMatchesSpreadAndAnyCutSpec : ChangeSpec := { name := "fnSamePremiumMatchesSpreadAndAnyCut", fn := fun _ => fun
  | [d1, d2] => { results := [.lit (.bool true)], args := [d1, d2] }
  | _ => none }
def fnSamePremiumMatchesSpreadAndAnyCutRow : OpenClaim := { program := "qxb6608960a", sum := "7b5d55dffadec1793063001d67feba2de13d02430941f65d9f21f31142ab62d6", func := "example.com/hearthcredit/hearthcredit/zzlaws_internal_credit_b1.FnSamePremiumMatchesSpreadAndAnyCut", spec := "fnSamePremiumMatchesSpreadAndAnyCut", unfollowed := true, recurses := true, apart := false }
def FnSamePremiumMatchesSpreadAndAnyCutSaid : Prop := fnSamePremiumMatchesSpreadAndAnyCutRow.holds Try.pinned (OpenSpec.ofChange fnSamePremiumMatchesSpreadAndAnyCutSpec)

/-- ITS FALSE NEIGHBOUR: 'it returns false'. Refute it at one input. -/
def fnSamePremiumMatchesSpreadAndAnyCutWrong : ChangeSpec := { name := "fnSamePremiumMatchesSpreadAndAnyCut", fn := fun _ => fun
  | [d1, d2] => { results := [.lit (.bool false)], args := [d1, d2] }
  | _ => none }
def FnSamePremiumMatchesSpreadAndAnyCutWrongFalsely : Prop := fnSamePremiumMatchesSpreadAndAnyCutRow.holds Try.pinned (OpenSpec.ofChange fnSamePremiumMatchesSpreadAndAnyCutWrong)

/-- 'zzlaws_internal_credit_b1.FnSamePaidAfterOneInsertion': WHATEVER THE INPUT: true; the input reads as it did. -/
def fnSamePaidAfterOneInsertionSpec : ChangeSpec := { name := "fnSamePaidAfterOneInsertion", fn := fun _ => fun
  | [d1, d2, d3] => { results := [.lit (.bool true)], args := [d1, d2, d3] }
  | _ => none }
def fnSamePaidAfterOneInsertionRow : OpenClaim := { program := "qxb6608960a", sum := "7b5d55dffadec1793063001d67feba2de13d02430941f65d9f21f31142ab62d6", func := "example.com/hearthcredit/hearthcredit/zzlaws_internal_credit_b1.FnSamePaidAfterOneInsertion", spec := "fnSamePaidAfterOneInsertion", unfollowed := true, recurses := true, apart := false }
def FnSamePaidAfterOneInsertionSaid : Prop := fnSamePaidAfterOneInsertionRow.holds Try.pinned (OpenSpec.ofChange fnSamePaidAfterOneInsertionSpec)

/-- ITS FALSE NEIGHBOUR: 'it returns false'. Refute it at one input. -/
def fnSamePaidAfterOneInsertionWrong : ChangeSpec := { name := "fnSamePaidAfterOneInsertion", fn := fun _ => fun
  | [d1, d2, d3] => { results := [.lit (.bool false)], args := [d1, d2, d3] }
  | _ => none }
def FnSamePaidAfterOneInsertionWrongFalsely : Prop := fnSamePaidAfterOneInsertionRow.holds Try.pinned (OpenSpec.ofChange fnSamePaidAfterOneInsertionWrong)

/-- 'zzlaws_internal_credit_b1.FnReferencePlanIsFirstMarkedAtAnyCut': WHATEVER THE INPUT: true; the input reads as it did. -/
def fnReferencePlanIsFirstMarkedAtAnyCutSpec : ChangeSpec := { name := "fnReferencePlanIsFirstMarkedAtAnyCut", fn := fun _ => fun
  | [d1, d2] => { results := [.lit (.bool true)], args := [d1, d2] }
  | _ => none }
def fnReferencePlanIsFirstMarkedAtAnyCutRow : OpenClaim := { program := "qxb6608960a", sum := "7b5d55dffadec1793063001d67feba2de13d02430941f65d9f21f31142ab62d6", func := "example.com/hearthcredit/hearthcredit/zzlaws_internal_credit_b1.FnReferencePlanIsFirstMarkedAtAnyCut", spec := "fnReferencePlanIsFirstMarkedAtAnyCut", unfollowed := true, recurses := true, apart := false }
def FnReferencePlanIsFirstMarkedAtAnyCutSaid : Prop := fnReferencePlanIsFirstMarkedAtAnyCutRow.holds Try.pinned (OpenSpec.ofChange fnReferencePlanIsFirstMarkedAtAnyCutSpec)

/-- ITS FALSE NEIGHBOUR: 'it returns false'. Refute it at one input. -/
def fnReferencePlanIsFirstMarkedAtAnyCutWrong : ChangeSpec := { name := "fnReferencePlanIsFirstMarkedAtAnyCut", fn := fun _ => fun
  | [d1, d2] => { results := [.lit (.bool false)], args := [d1, d2] }
  | _ => none }
def FnReferencePlanIsFirstMarkedAtAnyCutWrongFalsely : Prop := fnReferencePlanIsFirstMarkedAtAnyCutRow.holds Try.pinned (OpenSpec.ofChange fnReferencePlanIsFirstMarkedAtAnyCutWrong)

/-- 'zzlaws_internal_credit_b1.FnReferencePlanWalksMarkedPlansWhenCleared': WHATEVER THE INPUT: true; the input reads as it did. -/
def fnReferencePlanWalksMarkedPlansWhenClearedSpec : ChangeSpec := { name := "fnReferencePlanWalksMarkedPlansWhenCleared", fn := fun _ => fun
  | [d] => { results := [.lit (.bool true)], args := [d] }
  | _ => none }
def fnReferencePlanWalksMarkedPlansWhenClearedRow : OpenClaim := { program := "qxb6608960a", sum := "7b5d55dffadec1793063001d67feba2de13d02430941f65d9f21f31142ab62d6", func := "example.com/hearthcredit/hearthcredit/zzlaws_internal_credit_b1.FnReferencePlanWalksMarkedPlansWhenCleared", spec := "fnReferencePlanWalksMarkedPlansWhenCleared", unfollowed := true, recurses := true, apart := false }
def FnReferencePlanWalksMarkedPlansWhenClearedSaid : Prop := fnReferencePlanWalksMarkedPlansWhenClearedRow.holds Try.pinned (OpenSpec.ofChange fnReferencePlanWalksMarkedPlansWhenClearedSpec)

/-- ITS FALSE NEIGHBOUR: 'it returns false'. Refute it at one input. -/
def fnReferencePlanWalksMarkedPlansWhenClearedWrong : ChangeSpec := { name := "fnReferencePlanWalksMarkedPlansWhenCleared", fn := fun _ => fun
  | [d] => { results := [.lit (.bool false)], args := [d] }
  | _ => none }
def FnReferencePlanWalksMarkedPlansWhenClearedWrongFalsely : Prop := fnReferencePlanWalksMarkedPlansWhenClearedRow.holds Try.pinned (OpenSpec.ofChange fnReferencePlanWalksMarkedPlansWhenClearedWrong)

end Rows
end Go.Proofs.Qxb6608960a
