/-
  THE SEAT's CLOSED FACTS: a start in which the three sentinels lie; the sentinels out of 'laid'.
-/
import Derived.Test.Qxb6616613aFmtRows
import Derived.ProofKit
import Derived.Stop.JoinedAt
import Derived.Stop.Texts
import Derived.Stop.LaidErr
import Derived.Stop.JoinedTold
import Derived.OpenVars
namespace Go.Proofs.Qxb6616613aFmt
open Go.ChangeShapes Go.WideShapes Go.ChangeAt Go.RowKit Go.Kit
open Go.Extern.Stop Go.Stop Go.Extern
set_option linter.unusedVariables false

theorem Tryf.own : ownKnob Tryf.prog.godebug = none := by kernel_rfl
theorem Tryf.laidOut : laidOutB Tryf.pinned.checked.prog = true := by kernel_rfl
theorem Tryf.laidOut' : laidOutB Tryf.prog = true := by kernel_rfl
theorem Tryf.stops : Tryf.pinned.checked.prog.stops = ["fmt.errorf"] := by kernel_rfl
theorem Tryf.stopKnobs : Tryf.pinned.checked.prog.stopKnobs = [] := by kernel_rfl
theorem Tryf.quiet (os : Os) : Stop.quiet Tryf.pinned.checked.prog os := by
  intro k hk
  rw [Tryf.stopKnobs] at hk
  cases hk

/-- a block's cells, laid over -/
def putCells (h : Array Obj) (g : Nat) (cs : Array Value) : Array Obj := h.modify g fun
  | .cells _ t frozen => .cells cs t frozen
  | o => o
def textOf : DataW Unit → List UInt8
  | .iface _ (.ptr (.agg [.lit (.string s)])) => s
  | _ => []
def nameOf : DataW Unit → String
  | .iface s _ => s
  | _ => ""
def errBlock (d : DataW Unit) : Obj := .cells #[.string ⟨(textOf d).toArray⟩] 80
/-- a world in which the three sentinels hold what their initialisers lay -/
def laidOf (P : Program) (os : Os) : World :=
  let N := (World.settled P os).heap.size
  let w0 := World.holding P os ⟨#[errBlock Rows.laid_example_com_tallymesh_tallymesh_internal_tlv_ErrMalformed, errBlock Rows.laid_example_com_tallymesh_tallymesh_internal_tlv_ErrShort, errBlock Rows.laid_example_com_tallymesh_tallymesh_internal_tlv_errNotShortest], #[], []⟩
  { w0 with heap := putCells (putCells (putCells w0.heap 0 #[.iface 78 (.pointer (some ⟨N, 0, none⟩))]) 2 #[.iface 78 (.pointer (some ⟨N + 1, 0, none⟩))]) 3 #[.iface 78 (.pointer (some ⟨N + 2, 0, none⟩))] }

theorem laid4_met (os : Os) (args : Array Value) : laidMet Tryf.prog Rows.fnAppendHeaderReadsBackRow.laid ((laidOf Tryf.prog os).forCall (fun _ _ => 0) ⟨#[], args, []⟩).memory :=
  laidMet_of_run (ps := [.cell 0 0, .cell (World.settled Tryf.prog default).heap.size 0, .cell 2 0, .cell ((World.settled Tryf.prog default).heap.size + 1) 0, .cell 3 0, .cell ((World.settled Tryf.prog default).heap.size + 2) 0]) 8 (by kernel_rfl) (by kernel_rfl) (by kernel_rfl)

theorem row78 (u : TypeId) (h : Tryf.prog.typeName? 3 u = some (nameOf Rows.laid_example_com_tallymesh_tallymesh_internal_tlv_ErrMalformed)) : u = 78 :=
  typeName_ptr_named (nm := "errors.errorString") (by kernel_rfl) (by kernel_rfl) (by decide) u (h.trans (congrArg some (by decide)))

/-- ErrMalformed, out of 'laid' -/
theorem malformed {W : World} (hL : laidMet Tryf.prog Rows.fnAppendHeaderReadsBackRow.laid W) : ∃ (a : Addr) (s : ByteArray), W.cell? ⟨0, 0, none⟩ = some (.iface 78 (.pointer (some a))) ∧ W.cell? a = some (.string s) := by
  obtain ⟨a, s, hv, hc, _, _⟩ := laid_sentinel (g := 0) hL (by kernel_rfl) (by kernel_rfl) Tryf.underlying39 row78 Tryf.underlying78 Tryf.underlying80 rfl rfl Tryf.underlying9 (by kernel_rfl) (by kernel_rfl)
  refine ⟨a, s, ?_, hc⟩
  have := World.var?_cell (g := 0) (by kernel_rfl) hv 0
  simpa using this
end Go.Proofs.Qxb6616613aFmt
