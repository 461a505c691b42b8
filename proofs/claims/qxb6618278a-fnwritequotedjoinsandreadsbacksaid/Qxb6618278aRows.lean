/-
  No cell of these rows narrows 'for every input' (looked for: loops, veiled, ifaces, maps, wideKeys, modest, calm, conditions, laid).
  DERIVED. THE GIVEN ROWS OF THIS SEAT. 2 by the template 'for every input the law returns true; each argument reads behind the call as it read before'; 0 by the template 'total and deterministic' (their statements: Qxb6618278aTotals.lean).
  GIVEN WITH THE SEED: the statements are not yours to turn. If you find one false, say at which input.
  Laid BY PROGRAM, IN A SANDBOX (cutbox-rows.mjs): the forced cells as the released guide's own fill.sh prints them over the translation e1c46fa1f5d52eee… (all of the seat's roots in one cut). By AI agents, Wed Nov 11 2026. No macro, syntax, notation, axiom, sorry.
-/
import Derived.Test.Qxb6618278aChecked
import GoSem.Claim
import GoSem.ClaimJoined
import GoSem.ClaimMapViews
import Derived.JoinedTies
import Derived.KernelRfl
namespace Go.Proofs.Qxb6618278a
/- THE CELL 'sum', in the pinned program and in every row, IS THE sha256 OF THE DUMP (.gsa) THAT Qxb6618278aProg.lean LOADS. Nothing in Lean hashes anything: it is a label: what it is worth is what the hold of that sum in a sandbox is worth. -/
noncomputable def Try.pinned : Pinned := { name := "qxb6618278a", sum := "e1c46fa1f5d52eee8b536f5a790d348c8998e75fafa772bfae06fef6cbff7607", checked := Try.checked }
namespace Rows
def none {H : Type} : Left H := { results := [], args := [] }

/-- 'zzlaws_internal_httpsyntax_b1.FnWriteQuotedJoinsAndReadsBack': WHATEVER THE INPUT: true; the input reads as it did. -/
def fnWriteQuotedJoinsAndReadsBackSpec : ChangeSpec := { name := "fnWriteQuotedJoinsAndReadsBack", fn := fun _ => fun
  | [d1, d2, d3] => { results := [.lit (.bool true)], args := [d1, d2, d3] }
  | _ => none }
def fnWriteQuotedJoinsAndReadsBackRow : OpenClaim := { program := "qxb6618278a", sum := "e1c46fa1f5d52eee8b536f5a790d348c8998e75fafa772bfae06fef6cbff7607", func := "example.com/vintage/vintage/zzlaws_internal_httpsyntax_b1.FnWriteQuotedJoinsAndReadsBack", spec := "fnWriteQuotedJoinsAndReadsBack", inPlace := ["internal/abi.NoEscape"], apart := false }
def FnWriteQuotedJoinsAndReadsBackSaid : Prop := fnWriteQuotedJoinsAndReadsBackRow.holds Try.pinned (OpenSpec.ofChange fnWriteQuotedJoinsAndReadsBackSpec)

/-- ITS FALSE NEIGHBOUR: 'it returns false'. Refute it at one input. -/
def fnWriteQuotedJoinsAndReadsBackWrong : ChangeSpec := { name := "fnWriteQuotedJoinsAndReadsBack", fn := fun _ => fun
  | [d1, d2, d3] => { results := [.lit (.bool false)], args := [d1, d2, d3] }
  | _ => none }
def FnWriteQuotedJoinsAndReadsBackWrongFalsely : Prop := fnWriteQuotedJoinsAndReadsBackRow.holds Try.pinned (OpenSpec.ofChange fnWriteQuotedJoinsAndReadsBackWrong)

/-- 'zzlaws_internal_httpsyntax_b1.FnWriteQuotedIsInjectiveAndSelfDelimiting': WHATEVER THE INPUT: true; the input reads as it did. -/
def fnWriteQuotedIsInjectiveAndSelfDelimitingSpec : ChangeSpec := { name := "fnWriteQuotedIsInjectiveAndSelfDelimiting", fn := fun _ => fun
  | [d1, d2] => { results := [.lit (.bool true)], args := [d1, d2] }
  | _ => none }
def fnWriteQuotedIsInjectiveAndSelfDelimitingRow : OpenClaim := { program := "qxb6618278a", sum := "e1c46fa1f5d52eee8b536f5a790d348c8998e75fafa772bfae06fef6cbff7607", func := "example.com/vintage/vintage/zzlaws_internal_httpsyntax_b1.FnWriteQuotedIsInjectiveAndSelfDelimiting", spec := "fnWriteQuotedIsInjectiveAndSelfDelimiting", inPlace := ["internal/abi.NoEscape"], apart := false }
def FnWriteQuotedIsInjectiveAndSelfDelimitingSaid : Prop := fnWriteQuotedIsInjectiveAndSelfDelimitingRow.holds Try.pinned (OpenSpec.ofChange fnWriteQuotedIsInjectiveAndSelfDelimitingSpec)

/-- ITS FALSE NEIGHBOUR: 'it returns false'. Refute it at one input. -/
def fnWriteQuotedIsInjectiveAndSelfDelimitingWrong : ChangeSpec := { name := "fnWriteQuotedIsInjectiveAndSelfDelimiting", fn := fun _ => fun
  | [d1, d2] => { results := [.lit (.bool false)], args := [d1, d2] }
  | _ => none }
def FnWriteQuotedIsInjectiveAndSelfDelimitingWrongFalsely : Prop := fnWriteQuotedIsInjectiveAndSelfDelimitingRow.holds Try.pinned (OpenSpec.ofChange fnWriteQuotedIsInjectiveAndSelfDelimitingWrong)

end Rows
end Go.Proofs.Qxb6618278a
