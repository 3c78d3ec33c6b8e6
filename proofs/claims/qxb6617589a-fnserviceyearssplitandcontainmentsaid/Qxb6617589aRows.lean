/-
  No cell of these rows narrows 'for every input' (looked for: loops, veiled, ifaces, maps, wideKeys, modest, calm, conditions, laid).
  DERIVED. THE GIVEN ROWS OF THIS SEAT. 1 by the template 'for every input the law returns true; each argument reads behind the call as it read before'; 0 by the template 'total and deterministic' (their statements: Qxb6617589aTotals.lean).
  GIVEN WITH THE SEED: the statements are not yours to turn. If you find one false, say at which input.
  Laid BY PROGRAM, IN A SANDBOX (cutbox-rows.mjs): the forced cells as the released guide's own fill.sh prints them over the translation 655ebd49968ae528… (all of the seat's roots in one cut). By AI agents, Wed Nov 11 2026. No macro, syntax, notation, axiom, sorry.
-/
import Derived.Test.Qxb6617589aChecked
import GoSem.Claim
import GoSem.ClaimJoined
import GoSem.ClaimMapViews
import Derived.JoinedTies
import Derived.KernelRfl
namespace Go.Proofs.Qxb6617589a
/- THE CELL 'sum', in the pinned program and in every row, IS THE sha256 OF THE DUMP (.gsa) THAT Qxb6617589aProg.lean LOADS. Nothing in Lean hashes anything: it is a label: what it is worth is what the hold of that sum in a sandbox is worth. -/
noncomputable def Try.pinned : Pinned := { name := "qxb6617589a", sum := "655ebd49968ae5289750578e0a0f7cdad63cff92583cbf1df1036033e764349e", checked := Try.checked }
namespace Rows
def none {H : Type} : Left H := { results := [], args := [] }

/-- 'zzlaws_pkg_expense_b1.FnServiceYearsSplitAndContainment': WHATEVER THE INPUT: true; the input reads as it did. -/
def fnServiceYearsSplitAndContainmentSpec : ChangeSpec := { name := "fnServiceYearsSplitAndContainment", fn := fun _ => fun
  | [d1, d2, d3] => { results := [.lit (.bool true)], args := [d1, d2, d3] }
  | _ => none }
def fnServiceYearsSplitAndContainmentRow : OpenClaim := { program := "qxb6617589a", sum := "655ebd49968ae5289750578e0a0f7cdad63cff92583cbf1df1036033e764349e", func := "example.com/vestline/vestline/zzlaws_pkg_expense_b1.FnServiceYearsSplitAndContainment", spec := "fnServiceYearsSplitAndContainment", apart := false }
def FnServiceYearsSplitAndContainmentSaid : Prop := fnServiceYearsSplitAndContainmentRow.holds Try.pinned (OpenSpec.ofChange fnServiceYearsSplitAndContainmentSpec)

/-- ITS FALSE NEIGHBOUR: 'it returns false'. Refute it at one input. -/
def fnServiceYearsSplitAndContainmentWrong : ChangeSpec := { name := "fnServiceYearsSplitAndContainment", fn := fun _ => fun
  | [d1, d2, d3] => { results := [.lit (.bool false)], args := [d1, d2, d3] }
  | _ => none }
def FnServiceYearsSplitAndContainmentWrongFalsely : Prop := fnServiceYearsSplitAndContainmentRow.holds Try.pinned (OpenSpec.ofChange fnServiceYearsSplitAndContainmentWrong)

end Rows
end Go.Proofs.Qxb6617589a
