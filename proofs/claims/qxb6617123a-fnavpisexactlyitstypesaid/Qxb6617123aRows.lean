/-
  No cell of these rows narrows 'for every input' (looked for: loops, veiled, ifaces, maps, wideKeys, modest, calm, conditions, laid).
  DERIVED. THE GIVEN ROWS OF THIS SEAT. 2 by the template 'for every input the law returns true; each argument reads behind the call as it read before'; 0 by the template 'total and deterministic' (their statements: Qxb6617123aTotals.lean).
  GIVEN WITH THE SEED: the statements are not yours to turn. If you find one false, say at which input.
  Laid BY PROGRAM, IN A SANDBOX (cutbox-rows.mjs): the forced cells as the released guide's own fill.sh prints them over the translation 366c508f94cb83cb… (all of the seat's roots in one cut). By AI agents, Wed Nov 11 2026. No macro, syntax, notation, axiom, sorry.
-/
import Derived.Test.Qxb6617123aChecked
import GoSem.Claim
import GoSem.ClaimJoined
import GoSem.ClaimMapViews
import Derived.JoinedTies
import Derived.KernelRfl
namespace Go.Proofs.Qxb6617123a
/- THE CELL 'sum', in the pinned program and in every row, IS THE sha256 OF THE DUMP (.gsa) THAT Qxb6617123aProg.lean LOADS. Nothing in Lean hashes anything: it is a label: what it is worth is what the hold of that sum in a sandbox is worth. -/
noncomputable def Try.pinned : Pinned := { name := "qxb6617123a", sum := "366c508f94cb83cb8da8e65742de38efaa053e408fa2c17c60362301b24107c4", checked := Try.checked }
namespace Rows
def none {H : Type} : Left H := { results := [], args := [] }

/-- 'zzlaws_pkg_diameter_b1.FnAvpIsExactlyItsType': WHATEVER THE INPUT: true; the input reads as it did. -/
def fnAvpIsExactlyItsTypeSpec : ChangeSpec := { name := "fnAvpIsExactlyItsType", fn := fun _ => fun
  | [d1, d2, d3, d4, d5, d6, d7] => { results := [.lit (.bool true)], args := [d1, d2, d3, d4, d5, d6, d7] }
  | _ => none }
def fnAvpIsExactlyItsTypeRow : OpenClaim := { program := "qxb6617123a", sum := "366c508f94cb83cb8da8e65742de38efaa053e408fa2c17c60362301b24107c4", func := "example.com/crossfade/crossfade/zzlaws_pkg_diameter_b1.FnAvpIsExactlyItsType", spec := "fnAvpIsExactlyItsType", apart := false }
def FnAvpIsExactlyItsTypeSaid : Prop := fnAvpIsExactlyItsTypeRow.holds Try.pinned (OpenSpec.ofChange fnAvpIsExactlyItsTypeSpec)

/-- ITS FALSE NEIGHBOUR: 'it returns false'. Refute it at one input. -/
def fnAvpIsExactlyItsTypeWrong : ChangeSpec := { name := "fnAvpIsExactlyItsType", fn := fun _ => fun
  | [d1, d2, d3, d4, d5, d6, d7] => { results := [.lit (.bool false)], args := [d1, d2, d3, d4, d5, d6, d7] }
  | _ => none }
def FnAvpIsExactlyItsTypeWrongFalsely : Prop := fnAvpIsExactlyItsTypeRow.holds Try.pinned (OpenSpec.ofChange fnAvpIsExactlyItsTypeWrong)

/-- 'zzlaws_pkg_diameter_b1.FnIsSeesOnlyTheType': WHATEVER THE INPUT: true; the input reads as it did. -/
def fnIsSeesOnlyTheTypeSpec : ChangeSpec := { name := "fnIsSeesOnlyTheType", fn := fun _ => fun
  | [d1, d2, d3, d4, d5, d6, d7] => { results := [.lit (.bool true)], args := [d1, d2, d3, d4, d5, d6, d7] }
  | _ => none }
def fnIsSeesOnlyTheTypeRow : OpenClaim := { program := "qxb6617123a", sum := "366c508f94cb83cb8da8e65742de38efaa053e408fa2c17c60362301b24107c4", func := "example.com/crossfade/crossfade/zzlaws_pkg_diameter_b1.FnIsSeesOnlyTheType", spec := "fnIsSeesOnlyTheType", apart := false }
def FnIsSeesOnlyTheTypeSaid : Prop := fnIsSeesOnlyTheTypeRow.holds Try.pinned (OpenSpec.ofChange fnIsSeesOnlyTheTypeSpec)

/-- ITS FALSE NEIGHBOUR: 'it returns false'. Refute it at one input. -/
def fnIsSeesOnlyTheTypeWrong : ChangeSpec := { name := "fnIsSeesOnlyTheType", fn := fun _ => fun
  | [d1, d2, d3, d4, d5, d6, d7] => { results := [.lit (.bool false)], args := [d1, d2, d3, d4, d5, d6, d7] }
  | _ => none }
def FnIsSeesOnlyTheTypeWrongFalsely : Prop := fnIsSeesOnlyTheTypeRow.holds Try.pinned (OpenSpec.ofChange fnIsSeesOnlyTheTypeWrong)

end Rows
end Go.Proofs.Qxb6617123a
