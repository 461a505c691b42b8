/-
  NARROWER THAN 'FOR EVERY INPUT', by the rows' own cells (each row's printed sentence says how): FnSpanAgreesWithRescan: ifaces, laid · FnAppendHeaderReadsBack: ifaces, laid · FnSpanBoundsEachWrittenElement: ifaces, laid.
  DERIVED. THE GIVEN ROWS OF THIS SEAT. 3 by the template 'for every input the law returns true; each argument reads behind the call as it read before'; 0 by the template 'total and deterministic' (their statements: Qxb6616613aFmtTotals.lean).
  GIVEN WITH THE SEED: the statements are not yours to turn. If you find one false, say at which input.
  Laid BY PROGRAM, IN A SANDBOX (cutbox-rows.mjs): the forced cells as the released guide's own fill.sh prints them over the translation 2cf844e229570b93… (all of the seat's roots in one cut). By AI agents, Wed Nov 11 2026. No macro, syntax, notation, axiom, sorry.
-/
import Derived.Test.Qxb6616613aFmtChecked
import GoSem.Claim
import GoSem.ClaimJoined
import GoSem.ClaimMapViews
import Derived.JoinedTies
import Derived.KernelRfl
namespace Go.Proofs.Qxb6616613aFmt
/- THE CELL 'sum', in the pinned program and in every row, IS THE sha256 OF THE DUMP (.gsa) THAT Qxb6616613aFmtProg.lean LOADS. Nothing in Lean hashes anything: it is a label: what it is worth is what the hold of that sum in a sandbox is worth. -/
noncomputable def Tryf.pinned : Pinned := { name := "qxb6616613afmt", sum := "2cf844e229570b93c524c6e097c744d16207b69ba660dc3cf264edc0ba4f2d25", checked := Tryf.checked }
namespace Rows
def none {H : Type} : Left H := { results := [], args := [] }

/- WHAT THE LISTED PACKAGE-LEVEL VARIABLES READ AS WHEN THE CALL BEGINS. Each datum BY PROGRAM (the guide's laid-datum.mjs) off the statement by which the dump's own 'gosem.cut.vars' lays the variable. In a bare row this is a premise. The card (Qxb6616613aFmtCards.lean) ties it to the program's text. -/
def laid_example_com_tallymesh_tallymesh_internal_tlv_ErrMalformed {H : Type} : DataW H := .iface "*errors.errorString" (.ptr (.agg [.lit (.string [109, 97, 108, 102, 111, 114, 109, 101, 100, 32, 84, 76, 86])]))
def laid_example_com_tallymesh_tallymesh_internal_tlv_ErrShort {H : Type} : DataW H := .iface "*errors.errorString" (.ptr (.agg [.lit (.string [99, 117, 116, 32, 115, 104, 111, 114, 116])]))
def laid_example_com_tallymesh_tallymesh_internal_tlv_errNotShortest {H : Type} : DataW H := .iface "*errors.errorString" (.ptr (.agg [.lit (.string [110, 111, 116, 32, 105, 110, 32, 105, 116, 115, 32, 115, 104, 111, 114, 116, 101, 115, 116, 32, 102, 111, 114, 109])]))

/-- 'zzlaws_internal_tlv_b1.FnSpanAgreesWithRescan': WHATEVER THE INPUT: true; the input reads as it did. -/
def fnSpanAgreesWithRescanSpec : ChangeSpec := { name := "fnSpanAgreesWithRescan", vars := ["example.com/tallymesh/tallymesh/internal/tlv.ErrMalformed", "example.com/tallymesh/tallymesh/internal/tlv.ErrShort", "example.com/tallymesh/tallymesh/internal/tlv.errNotShortest"], fn := fun _ => fun
  | [d1, d2, g1, g2, g3] => { results := [.lit (.bool true)], args := [d1, d2], vars := [g1, g2, g3] }
  | _ => none }
def fnSpanAgreesWithRescanRow : OpenClaim := { program := "qxb6616613afmt", sum := "2cf844e229570b93c524c6e097c744d16207b69ba660dc3cf264edc0ba4f2d25", func := "example.com/tallymesh/tallymesh/zzlaws_internal_tlv_b1.FnSpanAgreesWithRescan", spec := "fnSpanAgreesWithRescan", stops := ["fmt.errorf"], inPlace := ["fmt.errorf"], unfollowed := true, recurses := true, named := ["example.com/tallymesh/tallymesh/internal/tlv.ErrMalformed", "example.com/tallymesh/tallymesh/internal/tlv.ErrShort", "example.com/tallymesh/tallymesh/internal/tlv.errNotShortest"], ifaces := true, apart := false, laid := [("example.com/tallymesh/tallymesh/internal/tlv.ErrMalformed", laid_example_com_tallymesh_tallymesh_internal_tlv_ErrMalformed), ("example.com/tallymesh/tallymesh/internal/tlv.ErrShort", laid_example_com_tallymesh_tallymesh_internal_tlv_ErrShort), ("example.com/tallymesh/tallymesh/internal/tlv.errNotShortest", laid_example_com_tallymesh_tallymesh_internal_tlv_errNotShortest)] }
/-- NO THEOREM (fmt's text is open here; it may be false): for the released tool's asking of the row's closed facts alone. THE STATEMENT IS 'FnSpanAgreesWithRescanToldSaid' (Qxb6616613aFmtCards.lean). -/
def FnSpanAgreesWithRescanFormAsk : Prop := fnSpanAgreesWithRescanRow.holds Tryf.pinned (OpenSpec.ofChange fnSpanAgreesWithRescanSpec)

/-- ITS FALSE NEIGHBOUR: 'it returns false'. Refute it at one input. -/
def fnSpanAgreesWithRescanWrong : ChangeSpec := { name := "fnSpanAgreesWithRescan", vars := ["example.com/tallymesh/tallymesh/internal/tlv.ErrMalformed", "example.com/tallymesh/tallymesh/internal/tlv.ErrShort", "example.com/tallymesh/tallymesh/internal/tlv.errNotShortest"], fn := fun _ => fun
  | [d1, d2, g1, g2, g3] => { results := [.lit (.bool false)], args := [d1, d2], vars := [g1, g2, g3] }
  | _ => none }
def FnSpanAgreesWithRescanWrongFormAsk : Prop := fnSpanAgreesWithRescanRow.holds Tryf.pinned (OpenSpec.ofChange fnSpanAgreesWithRescanWrong)

/-- 'zzlaws_internal_tlv_b1.FnAppendHeaderReadsBack': WHATEVER THE INPUT: true; the input reads as it did. -/
def fnAppendHeaderReadsBackSpec : ChangeSpec := { name := "fnAppendHeaderReadsBack", vars := ["example.com/tallymesh/tallymesh/internal/tlv.ErrMalformed", "example.com/tallymesh/tallymesh/internal/tlv.ErrShort", "example.com/tallymesh/tallymesh/internal/tlv.errNotShortest"], fn := fun _ => fun
  | [d1, d2, d3, d4, g1, g2, g3] => { results := [.lit (.bool true)], args := [d1, d2, d3, d4], vars := [g1, g2, g3] }
  | _ => none }
def fnAppendHeaderReadsBackRow : OpenClaim := { program := "qxb6616613afmt", sum := "2cf844e229570b93c524c6e097c744d16207b69ba660dc3cf264edc0ba4f2d25", func := "example.com/tallymesh/tallymesh/zzlaws_internal_tlv_b1.FnAppendHeaderReadsBack", spec := "fnAppendHeaderReadsBack", stops := ["fmt.errorf"], inPlace := ["fmt.errorf"], named := ["encoding/binary.BigEndian", "example.com/tallymesh/tallymesh/internal/tlv.ErrMalformed", "example.com/tallymesh/tallymesh/internal/tlv.ErrShort", "example.com/tallymesh/tallymesh/internal/tlv.errNotShortest"], ifaces := true, apart := false, laid := [("example.com/tallymesh/tallymesh/internal/tlv.ErrMalformed", laid_example_com_tallymesh_tallymesh_internal_tlv_ErrMalformed), ("example.com/tallymesh/tallymesh/internal/tlv.ErrShort", laid_example_com_tallymesh_tallymesh_internal_tlv_ErrShort), ("example.com/tallymesh/tallymesh/internal/tlv.errNotShortest", laid_example_com_tallymesh_tallymesh_internal_tlv_errNotShortest)] }
/-- NO THEOREM (fmt's text is open here; it may be false): for the released tool's asking of the row's closed facts alone. THE STATEMENT IS 'FnAppendHeaderReadsBackToldSaid' (Qxb6616613aFmtCards.lean). -/
def FnAppendHeaderReadsBackFormAsk : Prop := fnAppendHeaderReadsBackRow.holds Tryf.pinned (OpenSpec.ofChange fnAppendHeaderReadsBackSpec)

/-- ITS FALSE NEIGHBOUR: 'it returns false'. Refute it at one input. -/
def fnAppendHeaderReadsBackWrong : ChangeSpec := { name := "fnAppendHeaderReadsBack", vars := ["example.com/tallymesh/tallymesh/internal/tlv.ErrMalformed", "example.com/tallymesh/tallymesh/internal/tlv.ErrShort", "example.com/tallymesh/tallymesh/internal/tlv.errNotShortest"], fn := fun _ => fun
  | [d1, d2, d3, d4, g1, g2, g3] => { results := [.lit (.bool false)], args := [d1, d2, d3, d4], vars := [g1, g2, g3] }
  | _ => none }
def FnAppendHeaderReadsBackWrongFormAsk : Prop := fnAppendHeaderReadsBackRow.holds Tryf.pinned (OpenSpec.ofChange fnAppendHeaderReadsBackWrong)

/-- 'zzlaws_internal_tlv_b1.FnSpanBoundsEachWrittenElement': WHATEVER THE INPUT: true; the input reads as it did. -/
def fnSpanBoundsEachWrittenElementSpec : ChangeSpec := { name := "fnSpanBoundsEachWrittenElement", vars := ["example.com/tallymesh/tallymesh/internal/tlv.ErrMalformed", "example.com/tallymesh/tallymesh/internal/tlv.ErrShort", "example.com/tallymesh/tallymesh/internal/tlv.errNotShortest"], fn := fun _ => fun
  | [d1, d2, g1, g2, g3] => { results := [.lit (.bool true)], args := [d1, d2], vars := [g1, g2, g3] }
  | _ => none }
def fnSpanBoundsEachWrittenElementRow : OpenClaim := { program := "qxb6616613afmt", sum := "2cf844e229570b93c524c6e097c744d16207b69ba660dc3cf264edc0ba4f2d25", func := "example.com/tallymesh/tallymesh/zzlaws_internal_tlv_b1.FnSpanBoundsEachWrittenElement", spec := "fnSpanBoundsEachWrittenElement", stops := ["fmt.errorf"], inPlace := ["fmt.errorf"], unfollowed := true, recurses := true, named := ["encoding/binary.BigEndian", "example.com/tallymesh/tallymesh/internal/tlv.ErrMalformed", "example.com/tallymesh/tallymesh/internal/tlv.ErrShort", "example.com/tallymesh/tallymesh/internal/tlv.errNotShortest"], ifaces := true, apart := false, laid := [("example.com/tallymesh/tallymesh/internal/tlv.ErrMalformed", laid_example_com_tallymesh_tallymesh_internal_tlv_ErrMalformed), ("example.com/tallymesh/tallymesh/internal/tlv.ErrShort", laid_example_com_tallymesh_tallymesh_internal_tlv_ErrShort), ("example.com/tallymesh/tallymesh/internal/tlv.errNotShortest", laid_example_com_tallymesh_tallymesh_internal_tlv_errNotShortest)] }
/-- NO THEOREM (fmt's text is open here; it may be false): for the released tool's asking of the row's closed facts alone. THE STATEMENT IS 'FnSpanBoundsEachWrittenElementToldSaid' (Qxb6616613aFmtCards.lean). -/
def FnSpanBoundsEachWrittenElementFormAsk : Prop := fnSpanBoundsEachWrittenElementRow.holds Tryf.pinned (OpenSpec.ofChange fnSpanBoundsEachWrittenElementSpec)

/-- ITS FALSE NEIGHBOUR: 'it returns false'. Refute it at one input. -/
def fnSpanBoundsEachWrittenElementWrong : ChangeSpec := { name := "fnSpanBoundsEachWrittenElement", vars := ["example.com/tallymesh/tallymesh/internal/tlv.ErrMalformed", "example.com/tallymesh/tallymesh/internal/tlv.ErrShort", "example.com/tallymesh/tallymesh/internal/tlv.errNotShortest"], fn := fun _ => fun
  | [d1, d2, g1, g2, g3] => { results := [.lit (.bool false)], args := [d1, d2], vars := [g1, g2, g3] }
  | _ => none }
def FnSpanBoundsEachWrittenElementWrongFormAsk : Prop := fnSpanBoundsEachWrittenElementRow.holds Tryf.pinned (OpenSpec.ofChange fnSpanBoundsEachWrittenElementWrong)

end Rows
end Go.Proofs.Qxb6616613aFmt
