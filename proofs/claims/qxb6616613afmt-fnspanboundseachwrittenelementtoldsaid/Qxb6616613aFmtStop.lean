/-
  ReadHeader where the type is out of bounds: fmt.Errorf's way. fmt's text is the stop's answer (told by the model); only that an error comes back is used.
-/
import Derived.Test.Qxb6616613aFmtRead
import Derived.Stop.CallBack
import Derived.Stop.IfaceNil
import Derived.BigCall
import GoSem.ClaimData
namespace Go.Proofs.Qxb6616613aFmt
open Go.ChangeShapes Go.WideShapes Go.ChangeAt Go.RowKit
open Go.Extern.Stop Go.Stop Go.Extern
set_option linter.unusedVariables false

theorem Tryf.call31 (args : Array Value) (w : World) : (callFunc 31 args).run Tryf.prog w = ((FmtStop.errorf #[9, 75] #[39] args).run Tryf.prog w).andThen fun v w' => .ok (.value v) w' :=
  run_callFunc_extern Tryf.func31 (by kernel_rfl) (by kernel_rfl) (by kernel_rfl) (by kernel_rfl) args w
theorem Tryf.guard (name : String) (w : World) : (FmtStop.guard name).run Tryf.prog w = .ok () w := by kernel_rfl
theorem Tryf.fmt0 : FmtStop.printed? ⟨#[37, 119, 58, 32, 116, 121, 112, 101, 32, 37, 100, 32, 105, 115, 32, 111, 117, 116, 115, 105, 100, 101, 32, 49, 32, 116, 111, 32, 37, 100]⟩ 3 = some [(0, 119, false), (1, 100, false), (2, 100, false)] := by kernel_rfl
theorem Tryf.fmt0r (w : World) : (FmtDoors.printed ⟨#[37, 119, 58, 32, 116, 121, 112, 101, 32, 37, 100, 32, 105, 115, 32, 111, 117, 116, 115, 105, 100, 101, 32, 49, 32, 116, 111, 32, 37, 100]⟩ 3).run Tryf.prog w = .ok [(0, 119, false), (1, 100, false), (2, 100, false)] w := by kernel_rfl
def shape28 : List UInt8 := [9, 6, 0, 0, 0, 0, 0, 0, 0, 117, 105, 110, 116, 54, 52]
theorem Tryf.op28 (name : String) (x : Int) (w : World) : (FmtStop.operand name true 100 false (.iface 28 (.int .u64 x))).run Tryf.prog w = .ok (shape28, Go.Extern.Stop.digits 8 (x % 2 ^ 64).toNat) w := by kernel_rfl
theorem Tryf.ptr78 (w : World) : (FmtStop.ptrTo "errors.errorString").run Tryf.prog w = .ok 78 w := by kernel_rfl
theorem Tryf.elem78 (w : World) : (elemOf 78).run Tryf.prog w = .ok 80 w := by kernel_rfl
theorem Tryf.isError78 (w : World) : (FmtDoors.textMethod 78 "Error").run Tryf.prog w = .ok true w := by kernel_rfl
theorem Tryf.ptr77 (w : World) : (FmtStop.ptrTo "fmt.wrapError").run Tryf.prog w = .ok 77 w := by kernel_rfl
theorem Tryf.elem77 (w : World) : (elemOf 77).run Tryf.prog w = .ok 98 w := by kernel_rfl
theorem Tryf.isError77 (w : World) : (FmtDoors.textMethod 77 "Error").run Tryf.prog w = .ok true w := by kernel_rfl
/-- the name of the pointer type of the errors that errors.New makes -/
def nm78 : String := String.singleton '*' ++ "errors.errorString"
theorem Tryf.str78 (w : World) : (typeStr 78).run Tryf.prog w = .ok nm78 w := by kernel_rfl
/-- a sentinel as an operand of '%w': it reads as its type's name and its text -/
theorem Tryf.op78 (name : String) (a : Addr) (s : ByteArray) (w : World) (hc : w.cell? a = some (.string s)) :
    (FmtStop.operand name true 119 false (.iface 78 (.pointer (some a)))).run Tryf.prog w = .ok (14 :: FmtStop.pack nm78.toUTF8.data.toList, s.data.toList) w := by
  have h1 := Tryf.str78 w
  have d2 : Tryf.t78.desc = .pointer 80 := rfl
  have d3 : Tryf.t80.desc = .named "errors.errorString" 79 := rfl
  simp [FmtStop.operand, h1, d2, d3, run_load, hc]

set_option maxHeartbeats 1600000 in
set_option maxRecDepth 100000 in
theorem readHeader_bad (F : Interp) (b of len cap : Nat) (t : Int) (a : Addr) (s : ByteArray) (w : World) (hF : F.answers w.tape)
    (hg : w.cell? ⟨0, 0, none⟩ = some (.iface 78 (.pointer (some a)))) (hs : w.cell? a = some (.string s))
    (ht : 0 ≤ t) (ht2 : t ≤ 18446744073709551615) (hbad : t = 0 ∨ 4294967295 < t) (hle : (enc t).length ≤ len) (hcap : len ≤ cap) (hc : Lies w b of (enc t)) (hlen : len ≤ 1000000000) :
    Calls Tryf.prog 15 #[.slice (some ⟨b, of, none⟩) len cap] w fun e w' => (∃ N, e = .returned (.tuple #[.int .u64 0, .int .u64 0, .int .i64 0, .iface 77 (.pointer (some ⟨N, 0, none⟩))])) ∧ Below w.heap.size w w' := by
  have C1 := hidden (rvn_any b of len cap t w ht ht2 hle hcap hc hlen)
  have hF' := answers_open hF
  have h0 : 0 < w.heap.size := World.block_lt_of_cell? _ _ hg
  have h01 : 0 < w.heap.size + 1 := by omega
  have ha : a.block < w.heap.size := World.block_lt_of_cell? _ _ hs
  have ha1 : a.block < w.heap.size + 1 := by omega
  have hs1 : ∀ o1, (w.alloc o1).cell? a = some (.string s) := fun o1 => (World.cell?_alloc_lt _ _ _ ha).trans hs
  have hop := fun o1 => Tryf.op78 "fmt.errorf" a s (w.alloc o1) (hs1 o1)
  have f1 := Tryf.call31
  have f2 := Tryf.guard
  have f3 := Tryf.fmt0
  have f4 := Tryf.fmt0r
  have f5 := Tryf.op28
  have f6 := Tryf.ptr77
  have f7 := Tryf.elem77
  have f8 := Tryf.isError77
  have f9 := Tryf.isError78
  clear hc
  rcases hbad with rfl | hbad
  · go_enter Tryf.func15, Tryf.ntmps15
    go_wp2_with fail
    refine C1.out.mono ?_
    rintro e w' ⟨rfl, hw⟩
    obtain rfl := hw.symm
    go_wp2
    exact bodyPost_ret (v := .tuple #[.int .u64 0, .int .u64 0, .int .i64 0, .iface 77 (.pointer (some ⟨w.heap.size + 1, 0, none⟩))]) (by simp [results, Tryf.results15, go_sem]) rfl
      ⟨⟨_, rfl⟩, (((Below.refl _ w).alloc (Nat.le_refl _) _).alloc (by simp) _).drew⟩
  · have k3 : (t == 0) = false := beq_eq_false_iff_ne.2 (by omega)
    go_enter Tryf.func15, Tryf.ntmps15
    go_wp2_with fail
    refine C1.out.mono ?_
    rintro e w' ⟨rfl, hw⟩
    obtain rfl := hw.symm
    go_wp2
    exact bodyPost_ret (v := .tuple #[.int .u64 0, .int .u64 0, .int .i64 0, .iface 77 (.pointer (some ⟨w.heap.size + 1, 0, none⟩))]) (by simp [results, Tryf.results15, go_sem]) rfl
      ⟨⟨_, rfl⟩, (((Below.refl _ w).alloc (Nat.le_refl _) _).alloc (by simp) _).drew⟩
end Go.Proofs.Qxb6616613aFmt
