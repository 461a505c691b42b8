/-
  No cell of these rows narrows 'for every input' (looked for: loops, veiled, ifaces, maps, wideKeys, modest, calm, conditions, laid).
  DERIVED. THE GIVEN ROWS OF THIS SEAT. 1 by the template 'for every input the law returns true; each argument reads behind the call as it read before'; 0 by the template 'total and deterministic' (their statements: Qxb6617730aTotals.lean).
  GIVEN WITH THE SEED: the statements are not yours to turn. If you find one false, say at which input.
  Laid BY PROGRAM, IN A SANDBOX (cutbox-rows.mjs): the forced cells as the released guide's own fill.sh prints them over the translation 34d3dd983b1c32e0… (all of the seat's roots in one cut). By AI agents, Wed Nov 11 2026. No macro, syntax, notation, axiom, sorry.
-/
import Derived.Test.Qxb6617730aChecked
import GoSem.Claim
import GoSem.ClaimJoined
import GoSem.ClaimMapViews
import Derived.JoinedTies
import Derived.KernelRfl
namespace Go.Proofs.Qxb6617730a
/- THE CELL 'sum', in the pinned program and in every row, IS THE sha256 OF THE DUMP (.gsa) THAT Qxb6617730aProg.lean LOADS. Nothing in Lean hashes anything: it is a label: what it is worth is what the hold of that sum in a sandbox is worth. -/
noncomputable def Try.pinned : Pinned := { name := "qxb6617730a", sum := "34d3dd983b1c32e086c4cd00fac235fe230c423f544dc9037a655443739f73e5", checked := Try.checked }
namespace Rows
def none {H : Type} : Left H := { results := [], args := [] }

/-- 'zzlaws_node_b1.FnLineRemoveScriptKeepsOrder': WHATEVER THE INPUT: true; the input reads as it did. -/
def fnLineRemoveScriptKeepsOrderSpec : ChangeSpec := { name := "fnLineRemoveScriptKeepsOrder", fn := fun _ => fun
  | [d1, d2] => { results := [.lit (.bool true)], args := [d1, d2] }
  | _ => none }
def fnLineRemoveScriptKeepsOrderRow : OpenClaim := { program := "qxb6617730a", sum := "34d3dd983b1c32e086c4cd00fac235fe230c423f544dc9037a655443739f73e5", func := "example.com/sealstone/sealstone/zzlaws_node_b1.FnLineRemoveScriptKeepsOrder", spec := "fnLineRemoveScriptKeepsOrder", apart := false }
def FnLineRemoveScriptKeepsOrderSaid : Prop := fnLineRemoveScriptKeepsOrderRow.holds Try.pinned (OpenSpec.ofChange fnLineRemoveScriptKeepsOrderSpec)

/-- ITS FALSE NEIGHBOUR: 'it returns false'. Refute it at one input. -/
def fnLineRemoveScriptKeepsOrderWrong : ChangeSpec := { name := "fnLineRemoveScriptKeepsOrder", fn := fun _ => fun
  | [d1, d2] => { results := [.lit (.bool false)], args := [d1, d2] }
  | _ => none }
def FnLineRemoveScriptKeepsOrderWrongFalsely : Prop := fnLineRemoveScriptKeepsOrderRow.holds Try.pinned (OpenSpec.ofChange fnLineRemoveScriptKeepsOrderWrong)

end Rows
end Go.Proofs.Qxb6617730a
