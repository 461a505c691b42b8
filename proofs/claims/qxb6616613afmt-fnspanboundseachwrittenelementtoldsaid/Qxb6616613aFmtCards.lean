/-
  DERIVED. GIVEN WITH THE SEED: THE CARDS: each row of Qxb6616613aFmtRows.lean that lists a variable, with what it lists TIED to the program's text (the seventh form; the later family's looks); each row that meets fmt, with fmt's text TOLD by the authors' own Lean function (tested against real Go, not proved from fmt's source: count such statements apart). THE CARD IS WHAT COUNTS. Prove the row's statement (the work); the ties are given (Qxb6616613aFmtTie.lean); close each card by the builder's one call (the guide's Derived/Test/ToyasCard.lean, 'card_holds'). Laid BY PROGRAM, IN A SANDBOX (cutbox-door.mjs). By AI agents, Wed Nov 11 2026. No macro, syntax, notation, axiom, sorry.
-/
import Derived.Test.Qxb6616613aFmtRows
import GoSem.ClaimSeven
namespace Go.Proofs.Qxb6616613aFmt
namespace Rows

/-- THE TOLD AND TIED CARD OF 'zzlaws_internal_tlv_b1.FnSpanAgreesWithRescan'. -/
def fnSpanAgreesWithRescanCard : Claim7 := { stood := { row := fnSpanAgreesWithRescanRow, standIns := [], harness := (true, "44794bb2746f4ae703756ff3f6600747497d19dfcff66aa4d7b0e450313ecb6e"), looks := false }, told := true, laidByText := true, laidKinds := [.sentinel, .sentinel, .sentinel], laidTests := true, laidLooks := .later, goes := false }
def FnSpanAgreesWithRescanToldSaid : Prop := Claim7.holds Tryf.pinned (.plain (OpenSpec.ofChange fnSpanAgreesWithRescanSpec)) fnSpanAgreesWithRescanCard
/-- ITS FALSE NEIGHBOUR. Refute it at one input. -/
def FnSpanAgreesWithRescanToldWrongFalsely : Prop := Claim7.holds Tryf.pinned (.plain (OpenSpec.ofChange fnSpanAgreesWithRescanWrong)) fnSpanAgreesWithRescanCard

/-- THE TOLD AND TIED CARD OF 'zzlaws_internal_tlv_b1.FnAppendHeaderReadsBack'. -/
def fnAppendHeaderReadsBackCard : Claim7 := { stood := { row := fnAppendHeaderReadsBackRow, standIns := [], harness := (true, "44794bb2746f4ae703756ff3f6600747497d19dfcff66aa4d7b0e450313ecb6e"), looks := false }, told := true, laidByText := true, laidKinds := [.sentinel, .sentinel, .sentinel], laidTests := true, laidLooks := .later, goes := false }
def FnAppendHeaderReadsBackToldSaid : Prop := Claim7.holds Tryf.pinned (.plain (OpenSpec.ofChange fnAppendHeaderReadsBackSpec)) fnAppendHeaderReadsBackCard
/-- ITS FALSE NEIGHBOUR. Refute it at one input. -/
def FnAppendHeaderReadsBackToldWrongFalsely : Prop := Claim7.holds Tryf.pinned (.plain (OpenSpec.ofChange fnAppendHeaderReadsBackWrong)) fnAppendHeaderReadsBackCard

/-- THE TOLD AND TIED CARD OF 'zzlaws_internal_tlv_b1.FnSpanBoundsEachWrittenElement'. -/
def fnSpanBoundsEachWrittenElementCard : Claim7 := { stood := { row := fnSpanBoundsEachWrittenElementRow, standIns := [], harness := (true, "44794bb2746f4ae703756ff3f6600747497d19dfcff66aa4d7b0e450313ecb6e"), looks := false }, told := true, laidByText := true, laidKinds := [.sentinel, .sentinel, .sentinel], laidTests := true, laidLooks := .later, goes := false }
def FnSpanBoundsEachWrittenElementToldSaid : Prop := Claim7.holds Tryf.pinned (.plain (OpenSpec.ofChange fnSpanBoundsEachWrittenElementSpec)) fnSpanBoundsEachWrittenElementCard
/-- ITS FALSE NEIGHBOUR. Refute it at one input. -/
def FnSpanBoundsEachWrittenElementToldWrongFalsely : Prop := Claim7.holds Tryf.pinned (.plain (OpenSpec.ofChange fnSpanBoundsEachWrittenElementWrong)) fnSpanBoundsEachWrittenElementCard
end Rows
end Go.Proofs.Qxb6616613aFmt
