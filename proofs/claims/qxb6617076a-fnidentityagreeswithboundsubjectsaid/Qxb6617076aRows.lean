/-
  NARROWER THAN 'FOR EVERY INPUT', by the rows' own cells (each row's printed sentence says how): FnHoldsOperatorsPairUp: maps · FnHoldsInSplitsAtAnyCut: maps.
  DERIVED. THE GIVEN ROWS OF THIS SEAT. 6 by the template 'for every input the law returns true; each argument reads behind the call as it read before'; 0 by the template 'total and deterministic' (their statements: Qxb6617076aTotals.lean).
  GIVEN WITH THE SEED: the statements are not yours to turn. If you find one false, say at which input.
  Laid BY PROGRAM, IN A SANDBOX (cutbox-rows.mjs): the forced cells as the released guide's own fill.sh prints them over the translation ec1d727d691c65d2… (all of the seat's roots in one cut). By AI agents, Wed Nov 11 2026. No macro, syntax, notation, axiom, sorry.
-/
import Derived.Test.Qxb6617076aChecked
import GoSem.Claim
import GoSem.ClaimJoined
import GoSem.ClaimMapViews
import Derived.JoinedTies
import Derived.KernelRfl
namespace Go.Proofs.Qxb6617076a
/- THE CELL 'sum', in the pinned program and in every row, IS THE sha256 OF THE DUMP (.gsa) THAT Qxb6617076aProg.lean LOADS. Nothing in Lean hashes anything: it is a label: what it is worth is what the hold of that sum in a sandbox is worth. -/
noncomputable def Try.pinned : Pinned := { name := "qxb6617076a", sum := "ec1d727d691c65d2101aca8eff74bdba3e36ad325d0c3d7d03a7701b34449914", checked := Try.checked }
namespace Rows
def none {H : Type} : Left H := { results := [], args := [] }

/-- 'zzlaws_rbac_b1.FnHoldsOperatorsPairUp': WHATEVER THE INPUT: true; the input reads as it did. -/
def fnHoldsOperatorsPairUpSpec : ChangeSpec := { name := "fnHoldsOperatorsPairUp", fn := fun _ => fun
  | [d1, d2, d3, d4] => { results := [.lit (.bool true)], args := [d1, d2, d3, d4] }
  | _ => none }
def fnHoldsOperatorsPairUpRow : OpenClaim := { program := "qxb6617076a", sum := "ec1d727d691c65d2101aca8eff74bdba3e36ad325d0c3d7d03a7701b34449914", func := "example.com/portcullis/portcullis/zzlaws_rbac_b1.FnHoldsOperatorsPairUp", spec := "fnHoldsOperatorsPairUp", maps := true, apart := false }
def FnHoldsOperatorsPairUpSaid : Prop := fnHoldsOperatorsPairUpRow.holds Try.pinned (OpenSpec.ofChange fnHoldsOperatorsPairUpSpec)

/-- ITS FALSE NEIGHBOUR: 'it returns false'. Refute it at one input. -/
def fnHoldsOperatorsPairUpWrong : ChangeSpec := { name := "fnHoldsOperatorsPairUp", fn := fun _ => fun
  | [d1, d2, d3, d4] => { results := [.lit (.bool false)], args := [d1, d2, d3, d4] }
  | _ => none }
def FnHoldsOperatorsPairUpWrongFalsely : Prop := fnHoldsOperatorsPairUpRow.holds Try.pinned (OpenSpec.ofChange fnHoldsOperatorsPairUpWrong)

/-- 'zzlaws_rbac_b1.FnHoldsInSplitsAtAnyCut': WHATEVER THE INPUT: true; the input reads as it did. -/
def fnHoldsInSplitsAtAnyCutSpec : ChangeSpec := { name := "fnHoldsInSplitsAtAnyCut", fn := fun _ => fun
  | [d1, d2, d3, d4, d5] => { results := [.lit (.bool true)], args := [d1, d2, d3, d4, d5] }
  | _ => none }
def fnHoldsInSplitsAtAnyCutRow : OpenClaim := { program := "qxb6617076a", sum := "ec1d727d691c65d2101aca8eff74bdba3e36ad325d0c3d7d03a7701b34449914", func := "example.com/portcullis/portcullis/zzlaws_rbac_b1.FnHoldsInSplitsAtAnyCut", spec := "fnHoldsInSplitsAtAnyCut", maps := true, apart := false }
def FnHoldsInSplitsAtAnyCutSaid : Prop := fnHoldsInSplitsAtAnyCutRow.holds Try.pinned (OpenSpec.ofChange fnHoldsInSplitsAtAnyCutSpec)

/-- ITS FALSE NEIGHBOUR: 'it returns false'. Refute it at one input. -/
def fnHoldsInSplitsAtAnyCutWrong : ChangeSpec := { name := "fnHoldsInSplitsAtAnyCut", fn := fun _ => fun
  | [d1, d2, d3, d4, d5] => { results := [.lit (.bool false)], args := [d1, d2, d3, d4, d5] }
  | _ => none }
def FnHoldsInSplitsAtAnyCutWrongFalsely : Prop := fnHoldsInSplitsAtAnyCutRow.holds Try.pinned (OpenSpec.ofChange fnHoldsInSplitsAtAnyCutWrong)

/-- 'zzlaws_rbac_b1.FnBoundSubjectKeepsWhoAndIsAFixedPoint': WHATEVER THE INPUT: true; the input reads as it did. -/
def fnBoundSubjectKeepsWhoAndIsAFixedPointSpec : ChangeSpec := { name := "fnBoundSubjectKeepsWhoAndIsAFixedPoint", fn := fun _ => fun
  | [d1, d2, d3, d4, d5, d6] => { results := [.lit (.bool true)], args := [d1, d2, d3, d4, d5, d6] }
  | _ => none }
def fnBoundSubjectKeepsWhoAndIsAFixedPointRow : OpenClaim := { program := "qxb6617076a", sum := "ec1d727d691c65d2101aca8eff74bdba3e36ad325d0c3d7d03a7701b34449914", func := "example.com/portcullis/portcullis/zzlaws_rbac_b1.FnBoundSubjectKeepsWhoAndIsAFixedPoint", spec := "fnBoundSubjectKeepsWhoAndIsAFixedPoint", apart := false }
def FnBoundSubjectKeepsWhoAndIsAFixedPointSaid : Prop := fnBoundSubjectKeepsWhoAndIsAFixedPointRow.holds Try.pinned (OpenSpec.ofChange fnBoundSubjectKeepsWhoAndIsAFixedPointSpec)

/-- ITS FALSE NEIGHBOUR: 'it returns false'. Refute it at one input. -/
def fnBoundSubjectKeepsWhoAndIsAFixedPointWrong : ChangeSpec := { name := "fnBoundSubjectKeepsWhoAndIsAFixedPoint", fn := fun _ => fun
  | [d1, d2, d3, d4, d5, d6] => { results := [.lit (.bool false)], args := [d1, d2, d3, d4, d5, d6] }
  | _ => none }
def FnBoundSubjectKeepsWhoAndIsAFixedPointWrongFalsely : Prop := fnBoundSubjectKeepsWhoAndIsAFixedPointRow.holds Try.pinned (OpenSpec.ofChange fnBoundSubjectKeepsWhoAndIsAFixedPointWrong)

/-- 'zzlaws_rbac_b1.FnBoundSubjectBindingNamespaceOnlyFillsAGap': WHATEVER THE INPUT: true; the input reads as it did. -/
def fnBoundSubjectBindingNamespaceOnlyFillsAGapSpec : ChangeSpec := { name := "fnBoundSubjectBindingNamespaceOnlyFillsAGap", fn := fun _ => fun
  | [d1, d2, d3, d4, d5, d6] => { results := [.lit (.bool true)], args := [d1, d2, d3, d4, d5, d6] }
  | _ => none }
def fnBoundSubjectBindingNamespaceOnlyFillsAGapRow : OpenClaim := { program := "qxb6617076a", sum := "ec1d727d691c65d2101aca8eff74bdba3e36ad325d0c3d7d03a7701b34449914", func := "example.com/portcullis/portcullis/zzlaws_rbac_b1.FnBoundSubjectBindingNamespaceOnlyFillsAGap", spec := "fnBoundSubjectBindingNamespaceOnlyFillsAGap", apart := false }
def FnBoundSubjectBindingNamespaceOnlyFillsAGapSaid : Prop := fnBoundSubjectBindingNamespaceOnlyFillsAGapRow.holds Try.pinned (OpenSpec.ofChange fnBoundSubjectBindingNamespaceOnlyFillsAGapSpec)

/-- ITS FALSE NEIGHBOUR: 'it returns false'. Refute it at one input. -/
def fnBoundSubjectBindingNamespaceOnlyFillsAGapWrong : ChangeSpec := { name := "fnBoundSubjectBindingNamespaceOnlyFillsAGap", fn := fun _ => fun
  | [d1, d2, d3, d4, d5, d6] => { results := [.lit (.bool false)], args := [d1, d2, d3, d4, d5, d6] }
  | _ => none }
def FnBoundSubjectBindingNamespaceOnlyFillsAGapWrongFalsely : Prop := fnBoundSubjectBindingNamespaceOnlyFillsAGapRow.holds Try.pinned (OpenSpec.ofChange fnBoundSubjectBindingNamespaceOnlyFillsAGapWrong)

/-- 'zzlaws_rbac_b1.FnIdentityNamesUsersGroupsAndAccounts': WHATEVER THE INPUT: true; the input reads as it did. -/
def fnIdentityNamesUsersGroupsAndAccountsSpec : ChangeSpec := { name := "fnIdentityNamesUsersGroupsAndAccounts", fn := fun _ => fun
  | [d1, d2, d3, d4, d5] => { results := [.lit (.bool true)], args := [d1, d2, d3, d4, d5] }
  | _ => none }
def fnIdentityNamesUsersGroupsAndAccountsRow : OpenClaim := { program := "qxb6617076a", sum := "ec1d727d691c65d2101aca8eff74bdba3e36ad325d0c3d7d03a7701b34449914", func := "example.com/portcullis/portcullis/zzlaws_rbac_b1.FnIdentityNamesUsersGroupsAndAccounts", spec := "fnIdentityNamesUsersGroupsAndAccounts", apart := false }
def FnIdentityNamesUsersGroupsAndAccountsSaid : Prop := fnIdentityNamesUsersGroupsAndAccountsRow.holds Try.pinned (OpenSpec.ofChange fnIdentityNamesUsersGroupsAndAccountsSpec)

/-- ITS FALSE NEIGHBOUR: 'it returns false'. Refute it at one input. -/
def fnIdentityNamesUsersGroupsAndAccountsWrong : ChangeSpec := { name := "fnIdentityNamesUsersGroupsAndAccounts", fn := fun _ => fun
  | [d1, d2, d3, d4, d5] => { results := [.lit (.bool false)], args := [d1, d2, d3, d4, d5] }
  | _ => none }
def FnIdentityNamesUsersGroupsAndAccountsWrongFalsely : Prop := fnIdentityNamesUsersGroupsAndAccountsRow.holds Try.pinned (OpenSpec.ofChange fnIdentityNamesUsersGroupsAndAccountsWrong)

/-- 'zzlaws_rbac_b1.FnIdentityAgreesWithBoundSubject': WHATEVER THE INPUT: true; the input reads as it did. -/
def fnIdentityAgreesWithBoundSubjectSpec : ChangeSpec := { name := "fnIdentityAgreesWithBoundSubject", fn := fun _ => fun
  | [d1, d2, d3, d4, d5, d6] => { results := [.lit (.bool true)], args := [d1, d2, d3, d4, d5, d6] }
  | _ => none }
def fnIdentityAgreesWithBoundSubjectRow : OpenClaim := { program := "qxb6617076a", sum := "ec1d727d691c65d2101aca8eff74bdba3e36ad325d0c3d7d03a7701b34449914", func := "example.com/portcullis/portcullis/zzlaws_rbac_b1.FnIdentityAgreesWithBoundSubject", spec := "fnIdentityAgreesWithBoundSubject", apart := false }
def FnIdentityAgreesWithBoundSubjectSaid : Prop := fnIdentityAgreesWithBoundSubjectRow.holds Try.pinned (OpenSpec.ofChange fnIdentityAgreesWithBoundSubjectSpec)

/-- ITS FALSE NEIGHBOUR: 'it returns false'. Refute it at one input. -/
def fnIdentityAgreesWithBoundSubjectWrong : ChangeSpec := { name := "fnIdentityAgreesWithBoundSubject", fn := fun _ => fun
  | [d1, d2, d3, d4, d5, d6] => { results := [.lit (.bool false)], args := [d1, d2, d3, d4, d5, d6] }
  | _ => none }
def FnIdentityAgreesWithBoundSubjectWrongFalsely : Prop := fnIdentityAgreesWithBoundSubjectRow.holds Try.pinned (OpenSpec.ofChange fnIdentityAgreesWithBoundSubjectWrong)

end Rows
end Go.Proofs.Qxb6617076a
