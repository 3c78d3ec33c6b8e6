/-
  No cell of these rows narrows 'for every input' (looked for: loops, veiled, ifaces, maps, wideKeys, modest, calm, conditions, laid).
  DERIVED. THE GIVEN ROWS OF THIS SEAT. 2 by the template 'for every input the law returns true; each argument reads behind the call as it read before'; 0 by the template 'total and deterministic' (their statements: Qxb6617068aTotals.lean).
  GIVEN WITH THE SEED: the statements are not yours to turn. If you find one false, say at which input.
  Laid BY PROGRAM, IN A SANDBOX (cutbox-rows.mjs): the forced cells as the released guide's own fill.sh prints them over the translation a51ad7b8d6325fa7… (all of the seat's roots in one cut). By AI agents, Wed Nov 11 2026. No macro, syntax, notation, axiom, sorry.
-/
import Derived.Test.Qxb6617068aChecked
import GoSem.Claim
import GoSem.ClaimJoined
import GoSem.ClaimMapViews
import Derived.JoinedTies
import Derived.KernelRfl
namespace Go.Proofs.Qxb6617068a
/- THE CELL 'sum', in the pinned program and in every row, IS THE sha256 OF THE DUMP (.gsa) THAT Qxb6617068aProg.lean LOADS. Nothing in Lean hashes anything: it is a label: what it is worth is what the hold of that sum in a sandbox is worth. -/
noncomputable def Try.pinned : Pinned := { name := "qxb6617068a", sum := "a51ad7b8d6325fa786bfdaf89d026a7e528c8e94256d83f78092a314f1457d85", checked := Try.checked }
namespace Rows
def none {H : Type} : Left H := { results := [], args := [] }

/-- 'zzlaws_root_b1.FnHeldAnswersWhetherSeenBefore': WHATEVER THE INPUT: true; the input reads as it did. -/
def fnHeldAnswersWhetherSeenBeforeSpec : ChangeSpec := { name := "fnHeldAnswersWhetherSeenBefore", fn := fun _ => fun
  | [d] => { results := [.lit (.bool true)], args := [d] }
  | _ => none }
def fnHeldAnswersWhetherSeenBeforeRow : OpenClaim := { program := "qxb6617068a", sum := "a51ad7b8d6325fa786bfdaf89d026a7e528c8e94256d83f78092a314f1457d85", func := "example.com/facet/facet/zzlaws_root_b1.FnHeldAnswersWhetherSeenBefore", spec := "fnHeldAnswersWhetherSeenBefore", apart := false }
def FnHeldAnswersWhetherSeenBeforeSaid : Prop := fnHeldAnswersWhetherSeenBeforeRow.holds Try.pinned (OpenSpec.ofChange fnHeldAnswersWhetherSeenBeforeSpec)

/-- ITS FALSE NEIGHBOUR: 'it returns false'. Refute it at one input. -/
def fnHeldAnswersWhetherSeenBeforeWrong : ChangeSpec := { name := "fnHeldAnswersWhetherSeenBefore", fn := fun _ => fun
  | [d] => { results := [.lit (.bool false)], args := [d] }
  | _ => none }
def FnHeldAnswersWhetherSeenBeforeWrongFalsely : Prop := fnHeldAnswersWhetherSeenBeforeRow.holds Try.pinned (OpenSpec.ofChange fnHeldAnswersWhetherSeenBeforeWrong)

/-- 'zzlaws_root_b1.FnHeldReplayAndDistinctCount': WHATEVER THE INPUT: true; the input reads as it did. -/
def fnHeldReplayAndDistinctCountSpec : ChangeSpec := { name := "fnHeldReplayAndDistinctCount", fn := fun _ => fun
  | [d] => { results := [.lit (.bool true)], args := [d] }
  | _ => none }
def fnHeldReplayAndDistinctCountRow : OpenClaim := { program := "qxb6617068a", sum := "a51ad7b8d6325fa786bfdaf89d026a7e528c8e94256d83f78092a314f1457d85", func := "example.com/facet/facet/zzlaws_root_b1.FnHeldReplayAndDistinctCount", spec := "fnHeldReplayAndDistinctCount", apart := false }
def FnHeldReplayAndDistinctCountSaid : Prop := fnHeldReplayAndDistinctCountRow.holds Try.pinned (OpenSpec.ofChange fnHeldReplayAndDistinctCountSpec)

/-- ITS FALSE NEIGHBOUR: 'it returns false'. Refute it at one input. -/
def fnHeldReplayAndDistinctCountWrong : ChangeSpec := { name := "fnHeldReplayAndDistinctCount", fn := fun _ => fun
  | [d] => { results := [.lit (.bool false)], args := [d] }
  | _ => none }
def FnHeldReplayAndDistinctCountWrongFalsely : Prop := fnHeldReplayAndDistinctCountRow.holds Try.pinned (OpenSpec.ofChange fnHeldReplayAndDistinctCountWrong)

end Rows
end Go.Proofs.Qxb6617068a
