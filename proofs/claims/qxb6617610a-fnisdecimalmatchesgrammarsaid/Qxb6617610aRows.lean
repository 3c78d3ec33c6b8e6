/-
  No cell of these rows narrows 'for every input' (looked for: loops, veiled, ifaces, maps, wideKeys, modest, calm, conditions, laid).
  DERIVED. THE GIVEN ROWS OF THIS SEAT. 1 by the template 'for every input the law returns true; each argument reads behind the call as it read before'; 0 by the template 'total and deterministic' (their statements: Qxb6617610aTotals.lean).
  GIVEN WITH THE SEED: the statements are not yours to turn. If you find one false, say at which input.
  Laid BY PROGRAM, IN A SANDBOX (cutbox-rows.mjs): the forced cells as the released guide's own fill.sh prints them over the translation 0c898bcb79f922ef… (all of the seat's roots in one cut). By AI agents, Wed Nov 11 2026. No macro, syntax, notation, axiom, sorry.
-/
import Derived.Test.Qxb6617610aChecked
import GoSem.Claim
import GoSem.ClaimJoined
import GoSem.ClaimMapViews
import Derived.JoinedTies
import Derived.KernelRfl
namespace Go.Proofs.Qxb6617610a
/- THE CELL 'sum', in the pinned program and in every row, IS THE sha256 OF THE DUMP (.gsa) THAT Qxb6617610aProg.lean LOADS. Nothing in Lean hashes anything: it is a label: what it is worth is what the hold of that sum in a sandbox is worth. -/
noncomputable def Try.pinned : Pinned := { name := "qxb6617610a", sum := "0c898bcb79f922efd372512362212faa9378effca02904c5dbee082024928f7a", checked := Try.checked }
namespace Rows
def none {H : Type} : Left H := { results := [], args := [] }

/-- 'zzlaws_prices_b1.FnIsDecimalMatchesGrammar': WHATEVER THE INPUT: true; the input reads as it did. -/
def fnIsDecimalMatchesGrammarSpec : ChangeSpec := { name := "fnIsDecimalMatchesGrammar", fn := fun _ => fun
  | [d] => { results := [.lit (.bool true)], args := [d] }
  | _ => none }
def fnIsDecimalMatchesGrammarRow : OpenClaim := { program := "qxb6617610a", sum := "0c898bcb79f922efd372512362212faa9378effca02904c5dbee082024928f7a", func := "example.com/weighbridge/weighbridge/zzlaws_prices_b1.FnIsDecimalMatchesGrammar", spec := "fnIsDecimalMatchesGrammar", apart := false }
def FnIsDecimalMatchesGrammarSaid : Prop := fnIsDecimalMatchesGrammarRow.holds Try.pinned (OpenSpec.ofChange fnIsDecimalMatchesGrammarSpec)

/-- ITS FALSE NEIGHBOUR: 'it returns false'. Refute it at one input. -/
def fnIsDecimalMatchesGrammarWrong : ChangeSpec := { name := "fnIsDecimalMatchesGrammar", fn := fun _ => fun
  | [d] => { results := [.lit (.bool false)], args := [d] }
  | _ => none }
def FnIsDecimalMatchesGrammarWrongFalsely : Prop := fnIsDecimalMatchesGrammarRow.holds Try.pinned (OpenSpec.ofChange fnIsDecimalMatchesGrammarWrong)

end Rows
end Go.Proofs.Qxb6617610a
