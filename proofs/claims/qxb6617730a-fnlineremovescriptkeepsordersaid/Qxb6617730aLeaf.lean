import Derived.Test.Qxb6617730aRows
import Derived.Test.Qxb6617730aMem
import Derived.WalkKit
import Derived.ProofKit
import Derived.WalkSpells
import Derived.Below
import Derived.Deep.OwnRows
namespace Go.Proofs.Qxb6617730a
open Go.ChangeShapes Go.WideShapes Go.ChangeAt Go.RowKit
set_option linter.unusedVariables false

theorem zzb_yes (a0 : Option Addr) (len0 cap0 : Nat) (a1 : Option Addr) (len1 cap1 : Nat) (w : World) (h0 : len0 ≤ 1024) (h1 : len1 ≤ 1024) :
    Calls Try.prog 4 #[.slice a0 len0 cap0, .slice a1 len1 cap1] w fun e w' => e = .returned (.bool true) ∧ w' = w := by
  go_enter Try.func4, Try.ntmps4
  go_wp2
  go_ret
  exact ⟨rfl, rfl⟩

theorem zzb_any (a0 : Option Addr) (len0 cap0 : Nat) (a1 : Option Addr) (len1 cap1 : Nat) (w : World) (h0 : len0 ≤ maxLen) (h1 : len1 ≤ maxLen) :
    Calls Try.prog 4 #[.slice a0 len0 cap0, .slice a1 len1 cap1] w fun e w' => (∃ b, e = .returned (.bool b)) ∧ w' = w := by
  unfold maxLen at h0 h1
  go_enter Try.func4, Try.ntmps4
  go_wp2
  all_goals (go_ret; exact ⟨⟨_, rfl⟩, rfl⟩)

theorem new_any (s : Int) (w : World) :
    Calls Try.prog 7 #[.int .u64 s] w fun e w' => e = .returned (.pointer (some ⟨w.heap.size, 0, none⟩)) ∧ ∃ c : Array Value, w' = w.alloc (.cells c 49) ∧ c[0]? = some (.int .u64 s) ∧ c[16]? = some (.pointer none) ∧ c[17]? = some (.pointer none) := by
  go_enter Try.func7, Try.ntmps7
  go_wp2
  go_ret
  exact ⟨rfl, _, rfl, rfl, rfl, rfl⟩

theorem links_any (b : Nat) (p q v1 v2 : Option Addr) (s : Int) (w : World) (h : Node w b s v1 v2) :
    Calls Try.prog 8 #[.pointer (some ⟨b, 0, none⟩), .pointer p, .pointer q] w fun e w' => e = .returned (.tuple #[]) ∧ w' = (w.setCell ⟨b, 16, none⟩ (.pointer p)).setCell ⟨b, 17, none⟩ (.pointer q) := by
  have h1 := h.prev
  have h2 := h.next
  have f1 := h.free 16
  have f2 := h.free 17
  clear h
  go_enter Try.func8, Try.ntmps8
  go_wp2
  go_end0
  exact ⟨rfl, rfl⟩

theorem ends_any (L : Nat) (p q : Option Addr) (f : Nat → Value) (w : World) (h : w.rowIs L 31 2 f) :
    Calls Try.prog 9 #[.pointer (some ⟨L, 0, none⟩), .pointer p, .pointer q] w fun e w' => e = .returned (.tuple #[]) ∧ w' = (w.setCell ⟨L, 0, none⟩ (.pointer p)).setCell ⟨L, 1, none⟩ (.pointer q) := by
  have h1 := h.cell (i := 0) (by omega)
  have h2 := h.cell (i := 1) (by omega)
  have f1 := h.frozen 0
  have f2 := h.frozen 1
  clear h
  go_enter Try.func9, Try.ntmps9
  go_wp2
  go_end0
  exact ⟨rfl, rfl⟩

theorem prev_any (b : Nat) (v : Value) (w : World) (h : w.cell? ⟨b, 16, none⟩ = some v) :
    Calls Try.prog 11 #[.pointer (some ⟨b, 0, none⟩)] w fun e w' => e = .returned v ∧ w' = w := by
  go_enter Try.func11, Try.ntmps11
  go_wp2
  go_ret
  exact ⟨rfl, rfl⟩
theorem next_any (b : Nat) (v : Value) (w : World) (h : w.cell? ⟨b, 17, none⟩ = some v) :
    Calls Try.prog 12 #[.pointer (some ⟨b, 0, none⟩)] w fun e w' => e = .returned v ∧ w' = w := by
  go_enter Try.func12, Try.ntmps12
  go_wp2
  go_ret
  exact ⟨rfl, rfl⟩
theorem front_any (b : Nat) (v : Value) (w : World) (h : w.cell? ⟨b, 0, none⟩ = some v) :
    Calls Try.prog 15 #[.pointer (some ⟨b, 0, none⟩)] w fun e w' => e = .returned v ∧ w' = w := by
  go_enter Try.func15, Try.ntmps15
  go_wp2
  go_ret
  exact ⟨rfl, rfl⟩
theorem seq_any (b : Nat) (v : Value) (w : World) (h : w.cell? ⟨b, 0, none⟩ = some v) :
    Calls Try.prog 16 #[.pointer (some ⟨b, 0, none⟩)] w fun e w' => e = .returned v ∧ w' = w := by
  go_enter Try.func16, Try.ntmps16
  go_wp2
  go_ret
  exact ⟨rfl, rfl⟩
theorem back_any (b : Nat) (v : Value) (w : World) (h : w.cell? ⟨b, 1, none⟩ = some v) :
    Calls Try.prog 17 #[.pointer (some ⟨b, 0, none⟩)] w fun e w' => e = .returned v ∧ w' = w := by
  go_enter Try.func17, Try.ntmps17
  go_wp2
  go_ret
  exact ⟨rfl, rfl⟩

theorem Try.info34 : (Try.prog.info? 34).map (fun i => (i.zero, i.size, i.bytes)) = some (some (.int .u64 0), 1, 8) := by kernel_rfl
theorem Try.info3 : (Try.prog.info? 3).map (fun i => (i.zero, i.size, i.bytes)) = some (some (.int .i64 0), 1, 8) := by kernel_rfl
theorem Try.info4 : (Try.prog.info? 4).map (fun i => (i.zero, i.size, i.bytes)) = some (some (.bool false), 1, 1) := by kernel_rfl
theorem Try.info29 : (Try.prog.info? 29).map (fun i => (i.zero, i.size, i.bytes)) = some (some (.pointer none), 1, 8) := by kernel_rfl

/-- what a clone's row holds, k elements copied -/
def upTo (z : Value) (f : Nat → Value) (k : Nat) : Nat → Value := fun j => if j < k then f j else z
theorem upTo_zero (z : Value) (f : Nat → Value) (j : Nat) : upTo z f 0 j = z := by simp [upTo]
theorem upTo_step (z : Value) (f : Nat → Value) (k j : Nat) : (if j = k then f k else upTo z f k j) = upTo z f (k + 1) j := by
  unfold upTo
  by_cases e : j = k
  · subst e; simp
  · rw [if_neg e]
    by_cases hlt : j < k
    · rw [if_pos hlt, if_pos (by omega)]
    · rw [if_neg hlt, if_neg (by omega)]

/-- WHAT HOLDS IN A CLONE's LOOP -/
structure Cl (w wr : World) (e : TypeId) (z : Value) (n k : Nat) (f : Nat → Value) : Prop where
  bel : Below w.heap.size w wr
  size : wr.heap.size = w.heap.size + 1
  row : wr.rowIs w.heap.size e n (upTo z f k)
theorem cl_start (w : World) (e : TypeId) (z : Value) (n : Nat) (f : Nat → Value) : Cl w (w.alloc (.cells (madeCells #[z] n) e)) e z n 0 f :=
  ⟨(Below.refl _ _).alloc (Nat.le_refl _) _, by simp, (World.rowIs_made w z n e).congr fun i _ => (upTo_zero z f i).symm⟩
theorem cl_step {w wr : World} {e : TypeId} {z : Value} {n k : Nat} {f : Nat → Value} (h : Cl w wr e z n k f) : Cl w (wr.setCell ⟨w.heap.size, k, none⟩ (f k)) e z n (k + 1) f :=
  ⟨h.bel.setCell (Nat.le_refl _) _, by simpa using h.size, (h.row.set k _).congr fun i _ => upTo_step z f k i⟩

theorem cloneU64_nil (c : Nat) (w : World) :
    Calls Try.prog 5 #[.slice none 0 c] w fun e w' => e = .returned (.slice none 0 0) ∧ w' = w := by
  have hk := fun (wx : World) (a : Option Addr) (n c : Nat) => Lib.run_eql_slice_nil (P := Try.prog) wx 22 34 a n c 0 0 Try.underlying22
  go_enter Try.func5, Try.ntmps5
  go_wp2
  go_ret
  exact ⟨rfl, rfl⟩

set_option maxHeartbeats 400000 in
theorem cloneU64_some (b of n c : Nat) (f : Nat → Int) (w : World) (hn : n ≤ 1024) (hc : ∀ j, j < n → w.cell? ⟨b, of + j, none⟩ = some (.int .u64 (f j))) (hb : b < w.heap.size) :
    Calls Try.prog 5 #[.slice (some ⟨b, of, none⟩) n c] w fun e w' => e = .returned (.slice (some ⟨w.heap.size, 0, none⟩) n n) ∧ Cl w w' 34 (.int .u64 0) n n (fun j => .int .u64 (f j)) := by
  have hk := fun (wx : World) (a : Option Addr) (n c : Nat) => Lib.run_eql_slice_nil (P := Try.prog) wx 22 34 a n c 0 0 Try.underlying22
  have hmk := run_make_row' (P := Try.prog) 22 34 (.int .u64 0) 8 Try.underlying22 Try.info34 rfl .i64 .i64 n (by omega) (by omega)
  go_enter Try.func5, Try.ntmps5
  go_wp2
  go_loopw [4] (fun i wr => ∃ k : Nat, k ≤ n ∧ i = .int .i64 k ∧ Cl w wr 34 (.int .u64 0) n k (fun j => .int .u64 (f j))) (fun i _ => n - (intOf i).toNat)
  case atStart => exact ⟨0, Nat.zero_le _, rfl, cl_start _ _ _ _ _⟩
  case round =>
    obtain ⟨k, hk, rfl, hcl⟩ := hrel
    by_cases hlt : k < n
    · have hsrc : wr.cell? ⟨b, of + k, none⟩ = some (.int .u64 (f k)) := (hcl.bel.cell (by exact hb)).trans (hc k hlt)
      have hd := hcl.row.cell hlt
      have hfr := hcl.row.frozen k
      have R : Hid (Cl w (wr.setCell ⟨w.heap.size, k, none⟩ (.int .u64 (f k))) 34 (.int .u64 0) n (k + 1) (fun j => .int .u64 (f j))) := cl_step hcl
      clear hcl
      go_wp2
      go_roundw
      case rel => exact ⟨k + 1, by omega, by go_num, R.out⟩
      case measure => simp [intOf]; omega
    · have hkn : k = n := by omega
      go_wp2
      go_ret
      exact ⟨rfl, hkn ▸ hcl⟩


set_option maxHeartbeats 400000 in
theorem cloneU64_zero (x : Addr) (n c : Nat) (w : World) (h0 : n ≤ 0) :
    Calls Try.prog 5 #[.slice (some x) n c] w fun e w' => e = .returned (.slice (some ⟨w.heap.size, 0, none⟩) n n) ∧ Below w.heap.size w w' := by
  have hk := fun (wx : World) (a : Option Addr) (n c : Nat) => Lib.run_eql_slice_nil (P := Try.prog) wx 22 34 a n c 0 0 Try.underlying22
  have hmk := run_make_row' (P := Try.prog) 22 34 (.int .u64 0) 8 Try.underlying22 Try.info34 rfl .i64 .i64 n (by omega) (by omega)
  go_enter Try.func5, Try.ntmps5
  go_wp2
  refine wp_loop_rounds 1 ?_
  rw [rounds_succ]
  go_wp2
  go_ret
  exact ⟨rfl, (Below.refl _ _).alloc (Nat.le_refl _) _⟩

/-- A SLICE OF n NUMBERS THAT LIES IN MEMORY (n = 0: nothing is known of its address) -/
def Src (w : World) (k : IntKind) (a : Option Addr) (n : Nat) (f : Nat → Int) : Prop :=
  n = 0 ∨ ∃ b of, a = some ⟨b, of, none⟩ ∧ b < w.heap.size ∧ ∀ j, j < n → w.cell? ⟨b, of + j, none⟩ = some (.int k (f j))

theorem cloneU64_any (a : Option Addr) (n c : Nat) (f : Nat → Int) (w : World) (hn : n ≤ 1024) (ha : a = none → n = 0) (h : Src w .u64 a n f) :
    Calls Try.prog 5 #[.slice a n c] w fun e w' => ∃ a', e = .returned (.slice a' n n) ∧ Below w.heap.size w w' ∧ (0 < n → a' = some ⟨w.heap.size, 0, none⟩ ∧ w'.rowIs w.heap.size 34 n (fun j => .int .u64 (f j))) := by
  rcases Nat.eq_zero_or_pos n with h0 | h0
  · subst h0
    cases a with
    | none => exact (cloneU64_nil c w).mono fun e w' ⟨he, hw⟩ => ⟨_, he, by rw [hw]; exact Below.refl _ _, fun h => absurd h (Nat.lt_irrefl _)⟩
    | some x => exact (cloneU64_zero x 0 c w (Nat.le_refl _)).mono fun e w' ⟨he, hw⟩ => ⟨_, he, hw, fun h => absurd h (Nat.lt_irrefl _)⟩
  · rcases h with h | ⟨b, of, rfl, hb, hc⟩
    · omega
    · exact (cloneU64_some b of n c f w hn hc hb).mono fun e w' ⟨he, hw⟩ => ⟨_, he, hw.bel, fun _ => ⟨rfl, hw.row.congr fun i hi => by simp [upTo, hi]⟩⟩

theorem cloneInts_nil (c : Nat) (w : World) :
    Calls Try.prog 6 #[.slice none 0 c] w fun e w' => e = .returned (.slice none 0 0) ∧ w' = w := by
  have hk := fun (wx : World) (a : Option Addr) (n c : Nat) => Lib.run_eql_slice_nil (P := Try.prog) wx 23 3 a n c 0 0 Try.underlying23
  go_enter Try.func6, Try.ntmps6
  go_wp2
  go_ret
  exact ⟨rfl, rfl⟩

set_option maxHeartbeats 400000 in
theorem cloneInts_some (b of n c : Nat) (f : Nat → Int) (w : World) (hn : n ≤ 1024) (hc : ∀ j, j < n → w.cell? ⟨b, of + j, none⟩ = some (.int .i64 (f j))) (hb : b < w.heap.size) :
    Calls Try.prog 6 #[.slice (some ⟨b, of, none⟩) n c] w fun e w' => e = .returned (.slice (some ⟨w.heap.size, 0, none⟩) n n) ∧ Cl w w' 3 (.int .i64 0) n n (fun j => .int .i64 (f j)) := by
  have hk := fun (wx : World) (a : Option Addr) (n c : Nat) => Lib.run_eql_slice_nil (P := Try.prog) wx 23 3 a n c 0 0 Try.underlying23
  have hmk := run_make_row' (P := Try.prog) 23 3 (.int .i64 0) 8 Try.underlying23 Try.info3 rfl .i64 .i64 n (by omega) (by omega)
  go_enter Try.func6, Try.ntmps6
  go_wp2
  go_loopw [4] (fun i wr => ∃ k : Nat, k ≤ n ∧ i = .int .i64 k ∧ Cl w wr 3 (.int .i64 0) n k (fun j => .int .i64 (f j))) (fun i _ => n - (intOf i).toNat)
  case atStart => exact ⟨0, Nat.zero_le _, rfl, cl_start _ _ _ _ _⟩
  case round =>
    obtain ⟨k, hk, rfl, hcl⟩ := hrel
    by_cases hlt : k < n
    · have hsrc : wr.cell? ⟨b, of + k, none⟩ = some (.int .i64 (f k)) := (hcl.bel.cell (by exact hb)).trans (hc k hlt)
      have hd := hcl.row.cell hlt
      have hfr := hcl.row.frozen k
      have R : Hid (Cl w (wr.setCell ⟨w.heap.size, k, none⟩ (.int .i64 (f k))) 3 (.int .i64 0) n (k + 1) (fun j => .int .i64 (f j))) := cl_step hcl
      clear hcl
      go_wp2
      go_roundw
      case rel => exact ⟨k + 1, by omega, by go_num, R.out⟩
      case measure => simp [intOf]; omega
    · have hkn : k = n := by omega
      go_wp2
      go_ret
      exact ⟨rfl, hkn ▸ hcl⟩


set_option maxHeartbeats 400000 in
theorem cloneInts_zero (x : Addr) (n c : Nat) (w : World) (h0 : n ≤ 0) :
    Calls Try.prog 6 #[.slice (some x) n c] w fun e w' => e = .returned (.slice (some ⟨w.heap.size, 0, none⟩) n n) ∧ Below w.heap.size w w' := by
  have hk := fun (wx : World) (a : Option Addr) (n c : Nat) => Lib.run_eql_slice_nil (P := Try.prog) wx 23 3 a n c 0 0 Try.underlying23
  have hmk := run_make_row' (P := Try.prog) 23 3 (.int .i64 0) 8 Try.underlying23 Try.info3 rfl .i64 .i64 n (by omega) (by omega)
  go_enter Try.func6, Try.ntmps6
  go_wp2
  refine wp_loop_rounds 1 ?_
  rw [rounds_succ]
  go_wp2
  go_ret
  exact ⟨rfl, (Below.refl _ _).alloc (Nat.le_refl _) _⟩

theorem cloneInts_any (a : Option Addr) (n c : Nat) (f : Nat → Int) (w : World) (hn : n ≤ 1024) (ha : a = none → n = 0) (h : Src w .i64 a n f) :
    Calls Try.prog 6 #[.slice a n c] w fun e w' => ∃ a', e = .returned (.slice a' n n) ∧ Below w.heap.size w w' ∧ (0 < n → a' = some ⟨w.heap.size, 0, none⟩ ∧ w'.rowIs w.heap.size 3 n (fun j => .int .i64 (f j))) := by
  rcases Nat.eq_zero_or_pos n with h0 | h0
  · subst h0
    cases a with
    | none => exact (cloneInts_nil c w).mono fun e w' ⟨he, hw⟩ => ⟨_, he, by rw [hw]; exact Below.refl _ _, fun h => absurd h (Nat.lt_irrefl _)⟩
    | some x => exact (cloneInts_zero x 0 c w (Nat.le_refl _)).mono fun e w' ⟨he, hw⟩ => ⟨_, he, hw, fun h => absurd h (Nat.lt_irrefl _)⟩
  · rcases h with h | ⟨b, of, rfl, hb, hc⟩
    · omega
    · exact (cloneInts_some b of n c f w hn hc hb).mono fun e w' ⟨he, hw⟩ => ⟨_, he, hw.bel, fun _ => ⟨rfl, hw.row.congr fun i hi => by simp [upTo, hi]⟩⟩

end Go.Proofs.Qxb6617730a
