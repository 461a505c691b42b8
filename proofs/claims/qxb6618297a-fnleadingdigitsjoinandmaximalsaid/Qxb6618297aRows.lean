/-
  No cell of these rows narrows 'for every input' (looked for: loops, veiled, ifaces, maps, wideKeys, modest, calm, conditions, laid).
  DERIVED. THE GIVEN ROWS OF THIS SEAT. 1 by the template 'for every input the law returns true; each argument reads behind the call as it read before'; 0 by the template 'total and deterministic' (their statements: Qxb6618297aTotals.lean).
  GIVEN WITH THE SEED: the statements are not yours to turn. If you find one false, say at which input.
  Laid BY PROGRAM, IN A SANDBOX (cutbox-rows.mjs): the forced cells as the released guide's own fill.sh prints them over the translation c3d036c02c1bc4f7… (all of the seat's roots in one cut). By AI agents, Wed Nov 11 2026. No macro, syntax, notation, axiom, sorry.
-/
import Derived.Test.Qxb6618297aChecked
import GoSem.Claim
import GoSem.ClaimJoined
import GoSem.ClaimMapViews
import Derived.JoinedTies
import Derived.KernelRfl
namespace Go.Proofs.Qxb6618297a
/- THE CELL 'sum', in the pinned program and in every row, IS THE sha256 OF THE DUMP (.gsa) THAT Qxb6618297aProg.lean LOADS. Nothing in Lean hashes anything: it is a label: what it is worth is what the hold of that sum in a sandbox is worth. -/
noncomputable def Try.pinned : Pinned := { name := "qxb6618297a", sum := "c3d036c02c1bc4f7d3c5d7192312257afc1bc6f1c05342a9564f4850d122ffff", checked := Try.checked }
namespace Rows
def none {H : Type} : Left H := { results := [], args := [] }

/-- 'zzlaws_root_b1.FnLeadingDigitsJoinAndMaximal': WHATEVER THE INPUT: true; the input reads as it did. -/
def fnLeadingDigitsJoinAndMaximalSpec : ChangeSpec := { name := "fnLeadingDigitsJoinAndMaximal", fn := fun _ => fun
  | [d1, d2] => { results := [.lit (.bool true)], args := [d1, d2] }
  | _ => none }
def fnLeadingDigitsJoinAndMaximalRow : OpenClaim := { program := "qxb6618297a", sum := "c3d036c02c1bc4f7d3c5d7192312257afc1bc6f1c05342a9564f4850d122ffff", func := "example.com/grantbook/grantbook/zzlaws_root_b1.FnLeadingDigitsJoinAndMaximal", spec := "fnLeadingDigitsJoinAndMaximal", apart := false }
def FnLeadingDigitsJoinAndMaximalSaid : Prop := fnLeadingDigitsJoinAndMaximalRow.holds Try.pinned (OpenSpec.ofChange fnLeadingDigitsJoinAndMaximalSpec)

/-- ITS FALSE NEIGHBOUR: 'it returns false'. Refute it at one input. -/
def fnLeadingDigitsJoinAndMaximalWrong : ChangeSpec := { name := "fnLeadingDigitsJoinAndMaximal", fn := fun _ => fun
  | [d1, d2] => { results := [.lit (.bool false)], args := [d1, d2] }
  | _ => none }
def FnLeadingDigitsJoinAndMaximalWrongFalsely : Prop := fnLeadingDigitsJoinAndMaximalRow.holds Try.pinned (OpenSpec.ofChange fnLeadingDigitsJoinAndMaximalWrong)

end Rows
end Go.Proofs.Qxb6618297a
