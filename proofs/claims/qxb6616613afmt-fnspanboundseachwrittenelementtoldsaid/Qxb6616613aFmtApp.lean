/-
  AppendUint16, 32, 64, appendVarNumber, AppendHeader: onto a slice of the call's own.
-/
import Derived.Test.Qxb6616613aFmtRows
import Derived.WalkKit
import Derived.ProofKit
import Derived.WalkSpells
import Derived.Below
import Derived.Outline
import Derived.Deep.AppendLies
import Derived.Deep.RegionHeld3
namespace Go.Proofs.Qxb6616613aFmt
open Go.ChangeShapes Go.WideShapes Go.ChangeAt Go.RowKit
set_option linter.unusedVariables false

theorem hidden {p : Prop} (h : p) : Hid p := h
theorem Tryf.info5 : (Tryf.prog.info? 5).map (fun i => (i.zero, i.size, i.bytes)) = some (some (.int .u8 0), 1, 1) := by kernel_rfl

/-- what an append onto v (in w) leaves: the value at block g, owning xs; only v's own row and new blocks have turned; g is v's row or new -/
def Put (w w' : World) (base : Nat) (v : Value) (n : Nat) (xs : List Value) (e : Ending) : Prop :=
  ∃ g cap, e = .returned (.slice (some ⟨g, 0, none⟩) n cap) ∧ w'.ownsRow base 5 1 (.slice (some ⟨g, 0, none⟩) n cap) n xs ∧ w.grownBy w' v.ownBlock ∧ (v.ownBlock = some g ∨ w.heap.size ≤ g)

theorem lies {o : Option Nat} {g H N : Nat} (h : o = some g ∨ g = H) (hN : N ≤ H) : o = some g ∨ N ≤ g := by
  rcases h with h | h
  · exact .inl h
  · exact .inr (by omega)
theorem grown2 {w w' : World} {row : Option Nat} (o1 o2 : Obj) (h : ((w.alloc o1).alloc o2).grownBy w' row) : w.grownBy w' row :=
  ⟨h.os, h.tape, h.output, by have := h.size; simp at this; omega, fun k hk hne => (h.block k (by simp; omega) hne).trans ((Below.heap_alloc _ _ _ (by simp; omega)).trans (Below.heap_alloc _ _ _ hk))⟩

set_option maxHeartbeats 1000000 in
set_option maxRecDepth 100000 in
theorem app16_any (base : Nat) (v : Value) (n : Nat) (xs : List Value) (x : Int) (w : World) (h : w.ownsRow base 5 1 v n xs) (hx : 0 ≤ x) (hx2 : x ≤ 65535) (hn : n ≤ 1000000000) (hb : base ≤ w.heap.size) :
    Calls Tryf.prog 28 #[.agg #[], v, .int .u16 x] w fun e w' => Put w w' base v (n + 2) (xs ++ [.int .u8 (x / 256), .int .u8 (x % 256)]) e := by
  obtain ⟨i0, hi, hz0, hz1, hz2⟩ := info_parts Tryf.info5
  go_enter Tryf.func28, Tryf.ntmps28
  go_wp2_with (at_builtin; refine wpList_append_lies _ rfl (.tmp 7) (.tmp 13) 22 rfl base 5 i0 (.int .u8 0) 1 1 Tryf.underlying22 hi hz0 hz1 hz2 rfl (by decide) v n xs rfl ((h.alloc _).alloc _) ⟨w.heap.size + 1, 0, none⟩ 2 2 [.int .u8 (x / 256), .int .u8 (x % 256)] rfl rfl ?c1 ?c2 (by decide) ?c3 ?c4 ?c5 (w.heap.size + 2) ?c6 ?_)
  case c1 =>
    intro j u hj
    match j, hj with
    | 0, hj => simp at hj; subst hj; simp [Addr.add]
    | 1, hj => simp at hj; subst hj; simp [Addr.add]
  case c2 => intro u hu; simp at hu; rcases hu with rfl | rfl <;> rfl
  case c3 => unfold maxLen; omega
  case c4 => omega
  case c5 => simp; omega
  case c6 => simp
  intro g cap w1 hown hgrow hat hlt
  go_wp2
  go_ret
  exact ⟨g, cap, rfl, hown, grown2 _ _ hgrow, lies hat (by omega)⟩

set_option maxHeartbeats 1000000 in
set_option maxRecDepth 100000 in
theorem app32_any (base : Nat) (v : Value) (n : Nat) (xs : List Value) (x : Int) (w : World) (h : w.ownsRow base 5 1 v n xs) (hx : 0 ≤ x) (hx2 : x ≤ 4294967295) (hn : n ≤ 1000000000) (hb : base ≤ w.heap.size) :
    Calls Tryf.prog 29 #[.agg #[], v, .int .u32 x] w fun e w' => Put w w' base v (n + 4) (xs ++ [.int .u8 (x / 16777216), .int .u8 (x / 65536 % 256), .int .u8 (x / 256 % 256), .int .u8 (x % 256)]) e := by
  obtain ⟨i0, hi, hz0, hz1, hz2⟩ := info_parts Tryf.info5
  go_enter Tryf.func29, Tryf.ntmps29
  go_wp2_with (at_builtin; refine wpList_append_lies _ rfl (.tmp 7) (.tmp 19) 22 rfl base 5 i0 (.int .u8 0) 1 1 Tryf.underlying22 hi hz0 hz1 hz2 rfl (by decide) v n xs rfl ((h.alloc _).alloc _) ⟨w.heap.size + 1, 0, none⟩ 4 4 [.int .u8 (x / 16777216), .int .u8 (x / 65536 % 256), .int .u8 (x / 256 % 256), .int .u8 (x % 256)] rfl rfl ?c1 ?c2 (by decide) ?c3 ?c4 ?c5 (w.heap.size + 2) ?c6 ?_)
  case c1 =>
    intro j u hj
    match j, hj with
    | 0, hj => simp at hj; subst hj; simp [Addr.add]
    | 1, hj => simp at hj; subst hj; simp [Addr.add]
    | 2, hj => simp at hj; subst hj; simp [Addr.add]
    | 3, hj => simp at hj; subst hj; simp [Addr.add]
  case c2 => intro u hu; simp at hu; rcases hu with rfl | rfl | rfl | rfl <;> rfl
  case c3 => unfold maxLen; omega
  case c4 => omega
  case c5 => simp; omega
  case c6 => simp
  intro g cap w1 hown hgrow hat hlt
  go_wp2
  go_ret
  exact ⟨g, cap, rfl, hown, grown2 _ _ hgrow, lies hat (by omega)⟩

set_option maxHeartbeats 1000000 in
set_option maxRecDepth 100000 in
theorem app64_any (base : Nat) (v : Value) (n : Nat) (xs : List Value) (x : Int) (w : World) (h : w.ownsRow base 5 1 v n xs) (hx : 0 ≤ x) (hx2 : x ≤ 18446744073709551615) (hn : n ≤ 1000000000) (hb : base ≤ w.heap.size) :
    Calls Tryf.prog 30 #[.agg #[], v, .int .u64 x] w fun e w' => Put w w' base v (n + 8) (xs ++ [.int .u8 (x / 72057594037927936), .int .u8 (x / 281474976710656 % 256), .int .u8 (x / 1099511627776 % 256), .int .u8 (x / 4294967296 % 256), .int .u8 (x / 16777216 % 256), .int .u8 (x / 65536 % 256), .int .u8 (x / 256 % 256), .int .u8 (x % 256)]) e := by
  obtain ⟨i0, hi, hz0, hz1, hz2⟩ := info_parts Tryf.info5
  go_enter Tryf.func30, Tryf.ntmps30
  go_wp2_with (at_builtin; refine wpList_append_lies _ rfl _ _ 22 rfl base 5 i0 (.int .u8 0) 1 1 Tryf.underlying22 hi hz0 hz1 hz2 rfl (by decide) v n xs rfl ((h.alloc _).alloc _) ⟨w.heap.size + 1, 0, none⟩ 8 8 [.int .u8 (x / 72057594037927936), .int .u8 (x / 281474976710656 % 256), .int .u8 (x / 1099511627776 % 256), .int .u8 (x / 4294967296 % 256), .int .u8 (x / 16777216 % 256), .int .u8 (x / 65536 % 256), .int .u8 (x / 256 % 256), .int .u8 (x % 256)] rfl rfl ?c1 ?c2 (by decide) ?c3 ?c4 ?c5 (w.heap.size + 2) ?c6 ?_)
  case c1 =>
    intro j u hj
    match j, hj with
    | 0, hj => simp at hj; subst hj; simp [Addr.add]
    | 1, hj => simp at hj; subst hj; simp [Addr.add]
    | 2, hj => simp at hj; subst hj; simp [Addr.add]
    | 3, hj => simp at hj; subst hj; simp [Addr.add]
    | 4, hj => simp at hj; subst hj; simp [Addr.add]
    | 5, hj => simp at hj; subst hj; simp [Addr.add]
    | 6, hj => simp at hj; subst hj; simp [Addr.add]
    | 7, hj => simp at hj; subst hj; simp [Addr.add]
  case c2 => intro u hu; simp at hu; rcases hu with rfl | rfl | rfl | rfl | rfl | rfl | rfl | rfl <;> rfl
  case c3 => unfold maxLen; omega
  case c4 => omega
  case c5 => simp; omega
  case c6 => simp
  intro g cap w1 hown hgrow hat hlt
  go_wp2
  go_ret
  exact ⟨g, cap, rfl, hown, grown2 _ _ hgrow, lies hat (by omega)⟩

/-- the shortest form of a number, as bytes -/
def enc (x : Int) : List Int :=
  if x < 253 then [x] else if x ≤ 65535 then [253, x / 256, x % 256] else if x ≤ 4294967295 then [254, x / 16777216, x / 65536 % 256, x / 256 % 256, x % 256]
  else [255, x / 72057594037927936, x / 281474976710656 % 256, x / 1099511627776 % 256, x / 4294967296 % 256, x / 16777216 % 256, x / 65536 % 256, x / 256 % 256, x % 256]
def byts (l : List Int) : List Value := l.map (Value.int .u8)
theorem byts_append (a b : List Int) : byts (a ++ b) = byts a ++ byts b := by simp [byts]
theorem byts_len (a : List Int) : (byts a).length = a.length := by simp [byts]

/-- two appends, one behind the other -/
theorem Put.step {w w1 w2 : World} {base : Nat} {v : Value} {n1 n2 g1 cap1 : Nat} {xs2 : List Value} {e : Ending} (h1 : w.grownBy w1 v.ownBlock) (hat : v.ownBlock = some g1 ∨ w.heap.size ≤ g1)
    (h2 : Put w1 w2 base (.slice (some ⟨g1, 0, none⟩) n1 cap1) n2 xs2 e) : Put w w2 base v n2 xs2 e := by
  obtain ⟨g, cap, he, hown, hgr, hl⟩ := h2
  refine ⟨g, cap, he, hown, ⟨hgr.os.trans h1.os, hgr.tape.trans h1.tape, hgr.output.trans h1.output, Nat.le_trans h1.size hgr.size, fun k hk hne => ?_⟩, ?_⟩
  · refine (hgr.block k (Nat.lt_of_lt_of_le hk h1.size) (fun e => ?_)).trans (h1.block k hk hne)
    have e' : k = g1 := by simpa [Value.ownBlock] using e
    rcases hat with hat | hat
    · exact hne (by rw [hat, e'])
    · omega
  · rcases hl with hl | hl
    · have e' : g1 = g := by simpa [Value.ownBlock] using hl
      rw [← e']; exact hat
    · exact .inr (Nat.le_trans h1.size hl)

theorem grown1 {w w' : World} {row : Option Nat} (o1 : Obj) (h : (w.alloc o1).grownBy w' row) : w.grownBy w' row :=
  ⟨h.os, h.tape, h.output, by have := h.size; simp at this; omega, fun k hk hne => (h.block k (by simp; omega) hne).trans (Below.heap_alloc _ _ _ hk)⟩

set_option maxHeartbeats 1000000 in
set_option maxRecDepth 100000 in
theorem avn1 (base : Nat) (v : Value) (n : Nat) (xs : List Value) (x : Int) (w : World) (h : w.ownsRow base 5 1 v n xs) (hx : 0 ≤ x) (hx2 : x < 253) (hn : n ≤ 900000000) (hb : base ≤ w.heap.size) :
    Calls Tryf.prog 24 #[v, .int .u64 x] w fun e w' => Put w w' base v (n + 1) (xs ++ [.int .u8 x]) e := by
  obtain ⟨i0, hi, hz0, hz1, hz2⟩ := info_parts Tryf.info5
  go_enter Tryf.func24, Tryf.ntmps24
  go_wp2_with (at_builtin; refine wpList_append_lies _ rfl (.tmp 7) (.tmp 10) 22 rfl base 5 i0 (.int .u8 0) 1 1 Tryf.underlying22 hi hz0 hz1 hz2 rfl (by decide) v n xs rfl (h.alloc _) ⟨w.heap.size, 0, none⟩ 1 1 [.int .u8 x] rfl rfl ?c1 ?c2 (by decide) ?c3 ?c4 ?c5 (w.heap.size + 1) ?c6 ?_)
  case c1 =>
    intro j u hj
    match j, hj with
    | 0, hj => simp at hj; subst hj; simp [Addr.add]
  case c2 => intro u hu; simp at hu; subst hu; rfl
  case c3 => unfold maxLen; omega
  case c4 => omega
  case c5 => simp; omega
  case c6 => simp
  intro g cap w1 hown hgrow hat hlt
  go_wp2
  go_ret
  exact ⟨g, cap, rfl, hown, grown1 _ hgrow, lies hat (by omega)⟩

theorem one_cells (w : World) (x : Value) (t : TypeId) : ∀ j u, [x][j]? = some u → (w.alloc (.cells #[x] t)).drew.cell? ((⟨w.heap.size, 0, none⟩ : Addr).add j) = some u := cell_one_new w x t
theorem grown1d {w w' : World} {row : Option Nat} (o1 : Obj) (h : (w.alloc o1).drew.grownBy w' row) : w.grownBy w' row :=
  grown1 o1 ⟨h.os, h.tape, h.output, h.size, h.block⟩
theorem one_one (k : IntKind) (x : Int) : ∀ u ∈ [Value.int k x], u.oneCell' = true := by intro u hu; simp at hu; subst hu; rfl

set_option maxHeartbeats 400000 in
set_option maxRecDepth 100000 in
theorem avn2 (base : Nat) (v : Value) (n : Nat) (xs : List Value) (x : Int) (w : World) (h : w.ownsRow base 5 1 v n xs) (hx : 253 ≤ x) (hx2 : x ≤ 65535) (hn : n ≤ 900000000) (hb : base ≤ w.heap.size) :
    Calls Tryf.prog 24 #[v, .int .u64 x] w fun e w' => Put w w' base v (n + 1 + 2) (xs ++ [.int .u8 253] ++ [.int .u8 (x / 256), .int .u8 (x % 256)]) e := by
  obtain ⟨i0, hi, hz0, hz1, hz2⟩ := info_parts Tryf.info5
  have s1 := hidden (show (w.alloc (Obj.cells #[.int .u8 253] 5)).drew.ownsRow base 5 1 v n xs from (h.alloc _))
  have s2 := hidden (one_cells w (.int .u8 253) 5)
  have q1 : 0 ≤ x := by omega
  have q2 : n + 1 ≤ 1000000000 := by omega
  have s3 := hidden (show n + 1 ≤ maxLen by unfold maxLen; omega)
  have s4 := hidden (show base ≤ (w.alloc (Obj.cells #[.int .u8 253] 5)).drew.heap.size by simp; omega)
  have s5 := hidden (show (w.alloc (Obj.cells #[.int .u8 253] 5)).drew.heap.size = w.heap.size + 1 by simp)
  have hwx : IntKind.u16.wrap x = x := by rw [IntKind.wrap_u16]; omega
  clear h
  go_enter Tryf.func24, Tryf.ntmps24
  go_wp2
  go_region_held3 (fun w' => True) (trivial) (first
    | (refine step_append_lies _ rfl (.tmp 15) (.tmp 16) 22 rfl base 5 i0 (.int .u8 0) 1 1 Tryf.underlying22 hi hz0 hz1 hz2 rfl (by decide) v n xs (by simp [Act.eval]) s1.out ⟨w.heap.size, 0, none⟩ 1 1 [.int .u8 253] (by simp [Act.eval]) rfl s2.out (one_one _ _) (by decide) s3.out (by omega) s4.out (w.heap.size + 1) s5.out ?_; intro g cap w1 hown1 hgrow1 hat1 hlt1)
    | (go_at_call 28; refine (app16_any base _ (n + 1) (xs ++ [.int .u8 253]) x _ hown1 q1 hx2 q2 (Nat.le_trans hb (grown1d _ hgrow1).size)).mono ?_; rintro e w2 ⟨g2, cap2, rfl, hown2, hgr2, hl2⟩))
  all_goals
    go_wp2
    go_ret
    exact Put.step (grown1d _ hgrow1) (lies hat1 (by omega)) ⟨g2, cap2, rfl, hown2, hgr2, hl2⟩

set_option maxHeartbeats 400000 in
set_option maxRecDepth 100000 in
theorem avn4 (base : Nat) (v : Value) (n : Nat) (xs : List Value) (x : Int) (w : World) (h : w.ownsRow base 5 1 v n xs) (hx : 65536 ≤ x) (hx2 : x ≤ 4294967295) (hn : n ≤ 900000000) (hb : base ≤ w.heap.size) :
    Calls Tryf.prog 24 #[v, .int .u64 x] w fun e w' => Put w w' base v (n + 1 + 4) (xs ++ [.int .u8 254] ++ [.int .u8 (x / 16777216), .int .u8 (x / 65536 % 256), .int .u8 (x / 256 % 256), .int .u8 (x % 256)]) e := by
  obtain ⟨i0, hi, hz0, hz1, hz2⟩ := info_parts Tryf.info5
  have s1 := hidden (show (w.alloc (Obj.cells #[.int .u8 254] 5)).drew.ownsRow base 5 1 v n xs from (h.alloc _))
  have s2 := hidden (one_cells w (.int .u8 254) 5)
  have q1 : 0 ≤ x := by omega
  have q2 : n + 1 ≤ 1000000000 := by omega
  have s3 := hidden (show n + 1 ≤ maxLen by unfold maxLen; omega)
  have s4 := hidden (show base ≤ (w.alloc (Obj.cells #[.int .u8 254] 5)).drew.heap.size by simp; omega)
  have s5 := hidden (show (w.alloc (Obj.cells #[.int .u8 254] 5)).drew.heap.size = w.heap.size + 1 by simp)
  have hwx : IntKind.u32.wrap x = x := by rw [IntKind.wrap_u32]; omega
  clear h
  go_enter Tryf.func24, Tryf.ntmps24
  go_wp2
  go_region_held3 (fun w' => True) (trivial) (first
    | (refine step_append_lies _ rfl (.tmp 24) (.tmp 25) 22 rfl base 5 i0 (.int .u8 0) 1 1 Tryf.underlying22 hi hz0 hz1 hz2 rfl (by decide) v n xs (by simp [Act.eval]) s1.out ⟨w.heap.size, 0, none⟩ 1 1 [.int .u8 254] (by simp [Act.eval]) rfl s2.out (one_one _ _) (by decide) s3.out (by omega) s4.out (w.heap.size + 1) s5.out ?_; intro g cap w1 hown1 hgrow1 hat1 hlt1)
    | (go_at_call 29; refine (app32_any base _ (n + 1) (xs ++ [.int .u8 254]) x _ hown1 q1 hx2 q2 (Nat.le_trans hb (grown1d _ hgrow1).size)).mono ?_; rintro e w2 ⟨g2, cap2, rfl, hown2, hgr2, hl2⟩))
  all_goals
    go_wp2
    go_ret
    exact Put.step (grown1d _ hgrow1) (lies hat1 (by omega)) ⟨g2, cap2, rfl, hown2, hgr2, hl2⟩

set_option maxHeartbeats 400000 in
set_option maxRecDepth 100000 in
theorem avn8 (base : Nat) (v : Value) (n : Nat) (xs : List Value) (x : Int) (w : World) (h : w.ownsRow base 5 1 v n xs) (hx : 4294967296 ≤ x) (hx2 : x ≤ 18446744073709551615) (hn : n ≤ 900000000) (hb : base ≤ w.heap.size) :
    Calls Tryf.prog 24 #[v, .int .u64 x] w fun e w' => Put w w' base v (n + 1 + 8) (xs ++ [.int .u8 255] ++ [.int .u8 (x / 72057594037927936), .int .u8 (x / 281474976710656 % 256), .int .u8 (x / 1099511627776 % 256), .int .u8 (x / 4294967296 % 256), .int .u8 (x / 16777216 % 256), .int .u8 (x / 65536 % 256), .int .u8 (x / 256 % 256), .int .u8 (x % 256)]) e := by
  obtain ⟨i0, hi, hz0, hz1, hz2⟩ := info_parts Tryf.info5
  have s1 := hidden (show (w.alloc (Obj.cells #[.int .u8 255] 5)).drew.ownsRow base 5 1 v n xs from (h.alloc _))
  have s2 := hidden (one_cells w (.int .u8 255) 5)
  have q1 : 0 ≤ x := by omega
  have q2 : n + 1 ≤ 1000000000 := by omega
  have s3 := hidden (show n + 1 ≤ maxLen by unfold maxLen; omega)
  have s4 := hidden (show base ≤ (w.alloc (Obj.cells #[.int .u8 255] 5)).drew.heap.size by simp; omega)
  have s5 := hidden (show (w.alloc (Obj.cells #[.int .u8 255] 5)).drew.heap.size = w.heap.size + 1 by simp)
  clear h
  go_enter Tryf.func24, Tryf.ntmps24
  go_wp2
  go_region_held3 (fun w' => True) (trivial) (first
    | (refine step_append_lies _ rfl (.tmp 31) (.tmp 32) 22 rfl base 5 i0 (.int .u8 0) 1 1 Tryf.underlying22 hi hz0 hz1 hz2 rfl (by decide) v n xs (by simp [Act.eval]) s1.out ⟨w.heap.size, 0, none⟩ 1 1 [.int .u8 255] (by simp [Act.eval]) rfl s2.out (one_one _ _) (by decide) s3.out (by omega) s4.out (w.heap.size + 1) s5.out ?_; intro g cap w1 hown1 hgrow1 hat1 hlt1)
    | (go_at_call 30; refine (app64_any base _ (n + 1) (xs ++ [.int .u8 255]) x _ hown1 q1 hx2 q2 (Nat.le_trans hb (grown1d _ hgrow1).size)).mono ?_; rintro e w2 ⟨g2, cap2, rfl, hown2, hgr2, hl2⟩))
  all_goals
    go_wp2
    go_ret
    exact Put.step (grown1d _ hgrow1) (lies hat1 (by omega)) ⟨g2, cap2, rfl, hown2, hgr2, hl2⟩

theorem enc_len (x : Int) : 1 ≤ (enc x).length ∧ (enc x).length ≤ 9 := by
  unfold enc
  split
  · simp
  · split
    · simp
    · split <;> simp

theorem Put.spell {w w' : World} {base : Nat} {v : Value} {n n' : Nat} {xs xs' : List Value} {e : Ending} (h : Put w w' base v n xs e) (hn : n = n') (hx : xs = xs') : Put w w' base v n' xs' e := by
  subst hn; subst hx; exact h

/-- appendVarNumber -/
theorem avn_any (base : Nat) (v : Value) (n : Nat) (xs : List Value) (x : Int) (w : World) (h : w.ownsRow base 5 1 v n xs) (hx : 0 ≤ x) (hx2 : x ≤ 18446744073709551615) (hn : n ≤ 900000000) (hb : base ≤ w.heap.size) :
    Calls Tryf.prog 24 #[v, .int .u64 x] w fun e w' => Put w w' base v (n + (enc x).length) (xs ++ byts (enc x)) e := by
  by_cases h1 : x < 253
  · have e1 : enc x = [x] := by unfold enc; rw [if_pos h1]
    rw [e1]
    exact avn1 base v n xs x w h hx h1 hn hb
  · by_cases h2 : x ≤ 65535
    · have e1 : enc x = [253, x / 256, x % 256] := by unfold enc; rw [if_neg h1, if_pos h2]
      rw [e1]
      exact (avn2 base v n xs x w h (by omega) h2 hn hb).mono fun e w' hp => hp.spell (by simp) (by simp [byts])
    · by_cases h3 : x ≤ 4294967295
      · have e1 : enc x = [254, x / 16777216, x / 65536 % 256, x / 256 % 256, x % 256] := by unfold enc; rw [if_neg h1, if_neg h2, if_pos h3]
        rw [e1]
        exact (avn4 base v n xs x w h (by omega) h3 hn hb).mono fun e w' hp => hp.spell (by simp) (by simp [byts])
      · have e1 : enc x = [255, x / 72057594037927936, x / 281474976710656 % 256, x / 1099511627776 % 256, x / 4294967296 % 256, x / 16777216 % 256, x / 65536 % 256, x / 256 % 256, x % 256] := by unfold enc; rw [if_neg h1, if_neg h2, if_neg h3]
        rw [e1]
        exact (avn8 base v n xs x w h (by omega) hx2 hn hb).mono fun e w' hp => hp.spell (by simp) (by simp [byts])

/-- the header: type, length -/
def hdr (t l : Int) : List Int := enc t ++ enc l

set_option maxHeartbeats 400000 in
set_option maxRecDepth 100000 in
theorem header_any (base : Nat) (v : Value) (n : Nat) (xs : List Value) (t l : Int) (w : World) (h : w.ownsRow base 5 1 v n xs) (ht : 0 ≤ t) (ht2 : t ≤ 18446744073709551615) (hl : 0 ≤ l) (hl2 : l ≤ 18446744073709551615) (hn : n ≤ 800000000) (hb : base ≤ w.heap.size) :
    Calls Tryf.prog 13 #[v, .int .u64 t, .int .u64 l] w fun e w' => Put w w' base v (n + (hdr t l).length) (xs ++ byts (hdr t l)) e := by
  have e1 := enc_len t
  have C1 := hidden (avn_any base v n xs t w h ht ht2 (by omega) hb)
  clear h
  go_enter Tryf.func13, Tryf.ntmps13
  go_wp2_with fail
  refine C1.out.mono ?_
  rintro e w1 ⟨g, cap, rfl, hown, hgr, hat⟩
  have C2 := hidden (avn_any base _ _ _ l w1 hown hl hl2 (by omega) (Nat.le_trans hb hgr.size))
  go_wp2_with fail
  refine C2.out.mono ?_
  rintro e w2 ⟨g2, cap2, rfl, hown2, hgr2, hat2⟩
  go_wp2
  go_ret
  exact (Put.step hgr hat ⟨g2, cap2, rfl, hown2, hgr2, hat2⟩).spell (by simp [hdr]; omega) (by simp [hdr, byts_append])

/-- varSize -/
theorem varSize_any (x : Int) (w : World) (hx : 0 ≤ x) (hx2 : x ≤ 18446744073709551615) :
    Calls Tryf.prog 14 #[.int .u64 x] w fun e w' => e = .returned (.int .i64 ((enc x).length : Nat)) ∧ w' = w := by
  by_cases h1 : x < 253
  · have e1 : enc x = [x] := by unfold enc; rw [if_pos h1]
    rw [e1]
    go_enter Tryf.func14, Tryf.ntmps14
    go_wp2
    go_ret
    exact ⟨rfl, rfl⟩
  · by_cases h2 : x ≤ 65535
    · have e1 : enc x = [253, x / 256, x % 256] := by unfold enc; rw [if_neg h1, if_pos h2]
      rw [e1]
      go_enter Tryf.func14, Tryf.ntmps14
      go_wp2
      go_ret
      exact ⟨rfl, rfl⟩
    · by_cases h3 : x ≤ 4294967295
      · have e1 : enc x = [254, x / 16777216, x / 65536 % 256, x / 256 % 256, x % 256] := by unfold enc; rw [if_neg h1, if_neg h2, if_pos h3]
        rw [e1]
        go_enter Tryf.func14, Tryf.ntmps14
        go_wp2
        go_ret
        exact ⟨rfl, rfl⟩
      · have e1 : enc x = [255, x / 72057594037927936, x / 281474976710656 % 256, x / 1099511627776 % 256, x / 4294967296 % 256, x / 16777216 % 256, x / 65536 % 256, x / 256 % 256, x % 256] := by unfold enc; rw [if_neg h1, if_neg h2, if_neg h3]
        rw [e1]
        go_enter Tryf.func14, Tryf.ntmps14
        go_wp2
        go_ret
        exact ⟨rfl, rfl⟩
end Go.Proofs.Qxb6616613aFmt
