/-
  THE SHELF's CONTRACTS FOR (*strings.Builder).Len AND String AT THIS DUMP, in plain words, as the kit's own tools wrote them (lay-shelf.mjs, lay-plain.mjs), under this seat's name; copyCheck, WriteByte, WriteString the tool could not lay here: they are walked in Qxb6618278aBuilder.
-/
import Derived.Shelf.Strings.Builder1
import Derived.Test.Qxb6618278aProg
namespace Go.Proofs
open Go.Shelf
def Try.lays170_ren : Go.Shelf.Ren := ⟨fun | 170 => 8 | n => n, fun | 70 => 23 | 3 => 3 | 0 => 0 | 72 => 26 | 37 => 24 | 5 => 5 | n => n, fun | n => n⟩
theorem Try.lays170 : Go.Proofs.Lays.n170 Try.prog Try.lays170_ren := {
  mixed := by kernel_rfl
  f170 := Try.func8.trans (congrArg some (by kernel_rfl))
  t0 := Try.underlying0
  a0 := Try.isAgg0
  z0 := Try.sizeOf0
  v0 := Try.zeroValue0
  t3 := Try.underlying3
  a3 := Try.isAgg3
  z3 := Try.sizeOf3
  v3 := Try.zeroValue3
  t37 := Try.underlying24
  a37 := Try.isAgg24
  z37 := Try.sizeOf24
  v37 := Try.zeroValue24
  t70 := Try.underlying23
  a70 := Try.isAgg23
  z70 := Try.sizeOf23
  v70 := Try.zeroValue23
  t72 := Try.underlying26
  a72 := Try.isAgg26
  z72 := Try.sizeOf26
  v72 := Try.zeroValue26 }
open Go.RowKit in
theorem Try.Builder_Len (B b : Nat) (bs : List Value) (w : World) (h : Lib.IsBuilder 26 5 B b bs w) :
    Calls Try.prog 8 #[.pointer (some ⟨b, 0, none⟩)] w fun e w' => e = .returned (.int .i64 bs.length) ∧ w' = w := Any.Builder_Len Try.lays170 B b bs w h
def Try.lays169_ren : Go.Shelf.Ren := ⟨fun | 169 => 9 | n => n, fun | 70 => 23 | 9 => 9 | 0 => 0 | 72 => 26 | 37 => 24 | 127 => 40 | 3 => 3 | 5 => 5 | n => n, fun | n => n⟩
theorem Try.lays169 : Go.Proofs.Lays.n169 Try.prog Try.lays169_ren := {
  mixed := by kernel_rfl
  f169 := Try.func9.trans (congrArg some (by kernel_rfl))
  t0 := Try.underlying0
  a0 := Try.isAgg0
  z0 := Try.sizeOf0
  v0 := Try.zeroValue0
  t3 := Try.underlying3
  a3 := Try.isAgg3
  z3 := Try.sizeOf3
  v3 := Try.zeroValue3
  t9 := Try.underlying9
  a9 := Try.isAgg9
  z9 := Try.sizeOf9
  v9 := Try.zeroValue9
  t37 := Try.underlying24
  a37 := Try.isAgg24
  z37 := Try.sizeOf24
  v37 := Try.zeroValue24
  t70 := Try.underlying23
  a70 := Try.isAgg23
  z70 := Try.sizeOf23
  v70 := Try.zeroValue23
  t72 := Try.underlying26
  a72 := Try.isAgg26
  z72 := Try.sizeOf26
  v72 := Try.zeroValue26
  t127 := Try.underlying40
  a127 := Try.isAgg40
  z127 := Try.sizeOf40
  v127 := Try.zeroValue40 }
theorem Try.Builder_Extra_169 : Builder.Extra Try.prog Try.lays169_ren := {
  sizeBuilder := by kernel_rfl
  liesBuilder := by kernel_rfl
  t5 := Try.underlying5
  a5 := Try.isAgg5
  z5 := Try.sizeOf5
  v5 := Try.zeroValue5
  infoByte := by kernel_rfl
  cellsByte := by kernel_rfl
  sizeByte := by kernel_rfl
  neB5 := by decide }
open Go.RowKit in
theorem Try.Builder_String_any (B b : Nat) (l : List UInt8) (w : World) (h : Lib.IsBuilder 26 5 B b (Lib.byteCells l) w) (hBw : B ≤ w.heap.size) :
    Calls Try.prog 9 #[.pointer (some ⟨b, 0, none⟩)] w fun e w' => e = .returned (.string ⟨l.toArray⟩) ∧ Below B w w' := Any.Builder_String_any Try.lays169 Try.Builder_Extra_169 B b l w h hBw
end Go.Proofs
