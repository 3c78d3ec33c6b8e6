/-
  No cell of these rows narrows 'for every input' (looked for: loops, veiled, ifaces, maps, wideKeys, modest, calm, conditions, laid).
  DERIVED. THE GIVEN ROWS OF THIS SEAT. 2 by the template 'for every input the law returns true; each argument reads behind the call as it read before'; 0 by the template 'total and deterministic' (their statements: Qxb6617591aTotals.lean).
  GIVEN WITH THE SEED: the statements are not yours to turn. If you find one false, say at which input.
  Laid BY PROGRAM, IN A SANDBOX (cutbox-rows.mjs): the forced cells as the released guide's own fill.sh prints them over the translation d6a156bdf77a8b5e… (all of the seat's roots in one cut). By AI agents, Wed Nov 11 2026. No macro, syntax, notation, axiom, sorry.
-/
import Derived.Test.Qxb6617591aChecked
import GoSem.Claim
import GoSem.ClaimJoined
import GoSem.ClaimMapViews
import Derived.JoinedTies
import Derived.KernelRfl
namespace Go.Proofs.Qxb6617591a
/- THE CELL 'sum', in the pinned program and in every row, IS THE sha256 OF THE DUMP (.gsa) THAT Qxb6617591aProg.lean LOADS. Nothing in Lean hashes anything: it is a label: what it is worth is what the hold of that sum in a sandbox is worth. -/
noncomputable def Try.pinned : Pinned := { name := "qxb6617591a", sum := "d6a156bdf77a8b5e5f727bbe9d4fe8f2cbadfcfb61ec2cae66fd1c6572e3a48b", checked := Try.checked }
namespace Rows
def none {H : Type} : Left H := { results := [], args := [] }

/-- 'zzlaws_pkg_verdict_b1.FnAbsoluteIsTheSmallOneOfPlusAndMinus': WHATEVER THE INPUT: true; the input reads as it did. -/
def fnAbsoluteIsTheSmallOneOfPlusAndMinusSpec : ChangeSpec := { name := "fnAbsoluteIsTheSmallOneOfPlusAndMinus", fn := fun _ => fun
  | [d] => { results := [.lit (.bool true)], args := [d] }
  | _ => none }
def fnAbsoluteIsTheSmallOneOfPlusAndMinusRow : OpenClaim := { program := "qxb6617591a", sum := "d6a156bdf77a8b5e5f727bbe9d4fe8f2cbadfcfb61ec2cae66fd1c6572e3a48b", func := "example.com/inbox-gate/inbox-gate/zzlaws_pkg_verdict_b1.FnAbsoluteIsTheSmallOneOfPlusAndMinus", spec := "fnAbsoluteIsTheSmallOneOfPlusAndMinus", apart := false }
def FnAbsoluteIsTheSmallOneOfPlusAndMinusSaid : Prop := fnAbsoluteIsTheSmallOneOfPlusAndMinusRow.holds Try.pinned (OpenSpec.ofChange fnAbsoluteIsTheSmallOneOfPlusAndMinusSpec)

/-- ITS FALSE NEIGHBOUR: 'it returns false'. Refute it at one input. -/
def fnAbsoluteIsTheSmallOneOfPlusAndMinusWrong : ChangeSpec := { name := "fnAbsoluteIsTheSmallOneOfPlusAndMinus", fn := fun _ => fun
  | [d] => { results := [.lit (.bool false)], args := [d] }
  | _ => none }
def FnAbsoluteIsTheSmallOneOfPlusAndMinusWrongFalsely : Prop := fnAbsoluteIsTheSmallOneOfPlusAndMinusRow.holds Try.pinned (OpenSpec.ofChange fnAbsoluteIsTheSmallOneOfPlusAndMinusWrong)

/-- 'zzlaws_pkg_verdict_b1.FnAbsoluteGivesDistanceOnTheLine': WHATEVER THE INPUT: true; the input reads as it did. -/
def fnAbsoluteGivesDistanceOnTheLineSpec : ChangeSpec := { name := "fnAbsoluteGivesDistanceOnTheLine", fn := fun _ => fun
  | [d1, d2] => { results := [.lit (.bool true)], args := [d1, d2] }
  | _ => none }
def fnAbsoluteGivesDistanceOnTheLineRow : OpenClaim := { program := "qxb6617591a", sum := "d6a156bdf77a8b5e5f727bbe9d4fe8f2cbadfcfb61ec2cae66fd1c6572e3a48b", func := "example.com/inbox-gate/inbox-gate/zzlaws_pkg_verdict_b1.FnAbsoluteGivesDistanceOnTheLine", spec := "fnAbsoluteGivesDistanceOnTheLine", apart := false }
def FnAbsoluteGivesDistanceOnTheLineSaid : Prop := fnAbsoluteGivesDistanceOnTheLineRow.holds Try.pinned (OpenSpec.ofChange fnAbsoluteGivesDistanceOnTheLineSpec)

/-- ITS FALSE NEIGHBOUR: 'it returns false'. Refute it at one input. -/
def fnAbsoluteGivesDistanceOnTheLineWrong : ChangeSpec := { name := "fnAbsoluteGivesDistanceOnTheLine", fn := fun _ => fun
  | [d1, d2] => { results := [.lit (.bool false)], args := [d1, d2] }
  | _ => none }
def FnAbsoluteGivesDistanceOnTheLineWrongFalsely : Prop := fnAbsoluteGivesDistanceOnTheLineRow.holds Try.pinned (OpenSpec.ofChange fnAbsoluteGivesDistanceOnTheLineWrong)

end Rows
end Go.Proofs.Qxb6617591a
