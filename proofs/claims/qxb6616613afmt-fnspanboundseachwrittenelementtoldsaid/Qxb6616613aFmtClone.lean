/-
  cloneBytes; the bound's test.
-/
import Derived.Test.Qxb6616613aFmtApp
import Derived.Laws.CopyOwn
import Derived.Deep.OwnRows
namespace Go.Proofs.Qxb6616613aFmt
open Go.ChangeShapes Go.WideShapes Go.ChangeAt Go.RowKit
set_option linter.unusedVariables false

/-- A SLICE OF BYTES THAT LIES IN MEMORY (no bytes: nothing is known of its address) -/
def Src (w : World) (a : Option Addr) (X : List Int) : Prop :=
  X = [] ∨ ∃ b of, a = some ⟨b, of, none⟩ ∧ b < w.heap.size ∧ ∀ j u, (byts X)[j]? = some u → w.cell? ⟨b, of + j, none⟩ = some u

theorem Src.later {w w' : World} {a : Option Addr} {X : List Int} (h : Src w a X) (hb : Below w.heap.size w w') : Src w' a X := by
  rcases h with h | ⟨b, of, rfl, hlt, hc⟩
  · exact .inl h
  · exact .inr ⟨b, of, rfl, Nat.lt_of_lt_of_le hlt hb.size, fun j u hj => (hb.cell (p := ⟨b, of + j, none⟩) hlt).trans (hc j u hj)⟩

theorem bytes_one (X : List Int) : ∀ u ∈ byts X, u.oneCell' = true := by
  intro u hu
  obtain ⟨x, _, rfl⟩ := List.mem_map.1 hu
  rfl

theorem Tryf.size5 : (Tryf.prog.info? 5).map (·.size) = some 1 := by kernel_rfl

theorem clone_nil (c : Nat) (w : World) : Calls Tryf.prog 7 #[.slice none 0 c] w fun e w' => e = .returned (.slice none 0 0) ∧ w' = w := by
  have hk := fun (wx : World) (a : Option Addr) (n c : Nat) => Lib.run_eql_slice_nil (P := Tryf.prog) wx 22 5 a n c 0 0 Tryf.underlying22
  go_enter Tryf.func7, Tryf.ntmps7
  go_wp2
  go_ret
  exact ⟨rfl, rfl⟩

set_option maxHeartbeats 400000 in
theorem clone_zero (x : Addr) (n c : Nat) (w : World) (h0 : n ≤ 0) :
    Calls Tryf.prog 7 #[.slice (some x) n c] w fun e w' => e = .returned (.slice (some ⟨w.heap.size, 0, none⟩) n n) ∧ w' = w.alloc (.cells (madeCells #[.int .u8 0] n) 5) := by
  have hk := fun (wx : World) (a : Option Addr) (n c : Nat) => Lib.run_eql_slice_nil (P := Tryf.prog) wx 22 5 a n c 0 0 Tryf.underlying22
  have hmk := run_make_row' (P := Tryf.prog) 22 5 (.int .u8 0) 1 Tryf.underlying22 Tryf.info5 rfl .i64 .i64 n (by omega) (by omega)
  have hcp := fun (W : World) (ty : TypeId) => run_copy_none (P := Tryf.prog) W 22 22 ty 5 (some ⟨w.heap.size, 0, none⟩) (some x) n n n c Tryf.underlying22 Tryf.size5 (by simp; omega)
  go_enter Tryf.func7, Tryf.ntmps7
  go_wp2
  go_ret
  exact ⟨rfl, rfl⟩

set_option maxHeartbeats 400000 in
theorem clone_some (b of n c : Nat) (X : List Int) (w : World) (hX : X.length = n) (hn : n ≤ 1000000) (hb : b < w.heap.size) (hc : ∀ j u, (byts X)[j]? = some u → w.cell? ⟨b, of + j, none⟩ = some u) :
    Calls Tryf.prog 7 #[.slice (some ⟨b, of, none⟩) n c] w fun e w' => e = .returned (.slice (some ⟨w.heap.size, 0, none⟩) n n) ∧ w'.heap[w.heap.size]? = some (.cells (byts X).toArray 5 (0, 0)) ∧ Below w.heap.size w w' := by
  have hk := fun (wx : World) (a : Option Addr) (n c : Nat) => Lib.run_eql_slice_nil (P := Tryf.prog) wx 22 5 a n c 0 0 Tryf.underlying22
  have hmk := run_make_row' (P := Tryf.prog) 22 5 (.int .u8 0) 1 Tryf.underlying22 Tryf.info5 rfl .i64 .i64 n (by omega) (by omega)
  have hsz : (madeCells #[Value.int .u8 0] n).size = n := size_madeCells _ _
  have hnew : (w.alloc (.cells (madeCells #[.int .u8 0] n) 5)).heap[w.heap.size]? = some (.cells (madeCells #[.int .u8 0] n) 5 (0, 0)) := heap_alloc_new w _
  have hl : (byts X).length = n := by rw [byts_len, hX]
  have s1 := hidden (show ∀ j v, (byts X)[j]? = some v → (w.alloc (.cells (madeCells #[.int .u8 0] n) 5)).cell? ((⟨b, of, none⟩ : Addr).add j) = some v from fun j v hj => by
    rw [add_plain]; exact (World.cell?_alloc_lt w _ ⟨b, of + j, none⟩ hb).trans (hc j v hj))
  have H := hidden hnew
  have HS := hidden hsz
  have HL := hidden hl
  have hcp := fun (ty : TypeId) => run_copy_row (P := Tryf.prog) (w.alloc (.cells (madeCells #[.int .u8 0] n) 5)) 22 22 ty 5 w.heap.size 0 n n ⟨b, of, none⟩ n c (madeCells #[.int .u8 0] n) 5 (byts X) Tryf.underlying22 Tryf.size5 hnew (by rw [hl]; simp) s1.out (by rw [hl, hsz]; omega) (bytes_one X)
  clear hnew hsz hl
  go_enter Tryf.func7, Tryf.ntmps7
  go_wp2
  go_ret
  refine ⟨rfl, ?_, ?_⟩
  · rw [setRow_heap _ _ _ _ _ _ H.out]
    congr 2
    rw [List.drop_of_length_le (by rw [HL.out, Array.length_toList, HS.out]; omega)]
    simp
  · exact below_setRow ((Below.refl _ _).alloc (Nat.le_refl _) _) (Nat.le_refl _) _

theorem made_nil : madeCells #[Value.int .u8 0] 0 = (byts []).toArray := by simp [madeCells, byts]
/-- cloneBytes: what comes back is the call's own, and holds the same bytes -/
theorem clone_any (a : Option Addr) (n c : Nat) (X : List Int) (w : World) (hX : X.length = n) (hn : n ≤ 1000000) (ha : a = none → n = 0) (h : Src w a X) :
    Calls Tryf.prog 7 #[.slice a n c] w fun e w' => ∃ a', e = .returned (.slice a' n n) ∧ (a' = none → n = 0) ∧ (∀ x, a' = some x → x = ⟨w.heap.size, 0, none⟩ ∧ w'.heap[w.heap.size]? = some (.cells (byts X).toArray 5 (0, 0))) ∧ Below w.heap.size w w' := by
  cases a with
  | none =>
    obtain rfl := ha rfl
    exact (clone_nil c w).mono fun e w' ⟨he, hw⟩ => ⟨_, he, fun _ => rfl, (fun x hx => by cases hx), by rw [hw]; exact Below.refl _ _⟩
  | some x =>
    rcases h with rfl | ⟨b, of, hx, hb, hc⟩
    · simp at hX
      subst hX
      exact (clone_zero x 0 c w (Nat.le_refl _)).mono fun e w' ⟨he, hw⟩ => ⟨_, he, (fun h => by cases h), (fun y hy => ⟨(Option.some.inj hy).symm, by rw [hw, made_nil]; exact heap_alloc_new w _⟩), by rw [hw]; exact (Below.refl _ _).alloc (Nat.le_refl _) _⟩
    · cases hx
      exact (clone_some b of n c X w hX hn hb hc).mono fun e w' ⟨he, hw, hbel⟩ => ⟨_, he, (fun h => by cases h), (fun y hy => ⟨(Option.some.inj hy).symm, hw⟩), hbel⟩

/-- the clone is owned -/
theorem clone_owned {w w' : World} {a' : Option Addr} {n : Nat} {X : List Int} (hX : X.length = n) (hn : n ≤ 1000000) (h1 : a' = none → n = 0) (h2 : ∀ x, a' = some x → x = ⟨w.heap.size, 0, none⟩ ∧ w'.heap[w.heap.size]? = some (.cells (byts X).toArray 5 (0, 0))) :
    w'.ownsRow w.heap.size 5 1 (.slice a' n n) n (byts X) := by
  refine ⟨by rw [byts_len, hX, Nat.mul_one], ?_⟩
  cases a' with
  | none =>
    obtain rfl := h1 rfl
    exact .inl ⟨rfl, rfl⟩
  | some x =>
    obtain ⟨rfl, hh⟩ := h2 x rfl
    refine .inr ⟨w.heap.size, n, _, rfl, Nat.le_refl _, hh, Nat.le_refl _, by unfold maxLen; omega, by simp [byts_len, hX], ?_⟩
    rw [List.take_of_length_le (by simp [byts_len, hX])]

theorem zzb4_any (a0 : Option Addr) (l0 c0 : Nat) (t l : Int) (a1 : Option Addr) (l1 c1 : Nat) (w : World) (h0 : l0 ≤ maxLen) (h1 : l1 ≤ maxLen) :
    Calls Tryf.prog 12 #[.slice a0 l0 c0, .int .u64 t, .int .u64 l, .slice a1 l1 c1] w fun e w' => (∃ b, e = .returned (.bool b)) ∧ w' = w := by
  unfold maxLen at h0 h1
  go_enter Tryf.func12, Tryf.ntmps12
  go_wp2
  all_goals (go_ret; exact ⟨⟨_, rfl⟩, rfl⟩)
theorem zzb4_yes (a0 : Option Addr) (l0 c0 : Nat) (t l : Int) (a1 : Option Addr) (l1 c1 : Nat) (w : World) (h0 : l0 ≤ 524288) (h1 : l1 ≤ 524288) :
    Calls Tryf.prog 12 #[.slice a0 l0 c0, .int .u64 t, .int .u64 l, .slice a1 l1 c1] w fun e w' => e = .returned (.bool true) ∧ w' = w := by
  go_enter Tryf.func12, Tryf.ntmps12
  go_wp2
  go_ret
  exact ⟨rfl, rfl⟩
end Go.Proofs.Qxb6616613aFmt
