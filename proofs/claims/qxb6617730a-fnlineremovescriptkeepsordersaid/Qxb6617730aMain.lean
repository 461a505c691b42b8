/-
  THE LAW's OWN WALK.
-/
import Derived.Test.Qxb6617730aRem
import Derived.Test.Qxb6617730aReads
import Derived.Deep.RegionWith
import Derived.Deep.DeepCutAuto
namespace Go.Proofs.Qxb6617730a
open Go.ChangeShapes Go.WideShapes Go.ChangeAt Go.RowKit
set_option linter.unusedVariables false

theorem hidden {p : Prop} (h : p) : Hid p := h

/-- too long: true at once -/
theorem main_long (a0 : Option Addr) (len0 cap0 : Nat) (a1 : Option Addr) (len1 cap1 : Nat) (w : World) (h0 : len0 ≤ maxLen) (h1 : len1 ≤ maxLen) (h : 1024 < len0 ∨ 1024 < len1) :
    Calls Try.prog 3 #[.slice a0 len0 cap0, .slice a1 len1 cap1] w fun e w' => e = .returned (.bool true) ∧ w' = w := by
  have hz := zzb_any a0 len0 cap0 a1 len1 cap1 w h0 h1
  have H : Hid (Calls Try.prog 4 #[.slice a0 len0 cap0, .slice a1 len1 cap1] w fun e w' => (∃ b, e = .returned (.bool b)) ∧ w' = w) := hz
  clear hz
  unfold maxLen at h0 h1
  rcases Nat.lt_or_ge 1024 len0 with hl | hl
  · go_enter Try.func3, Try.ntmps3
    go_wp2_with (go_at_call 4; refine H.out.mono ?_; rintro e w' ⟨⟨b, rfl⟩, hw⟩; obtain rfl := hw.symm; cases b)
    all_goals (go_wp2; go_ret; exact ⟨rfl, rfl⟩)
  · have hl1 : 1024 < len1 := by omega
    go_enter Try.func3, Try.ntmps3
    go_wp2_with (go_at_call 4; refine H.out.mono ?_; rintro e w' ⟨⟨b, rfl⟩, hw⟩; obtain rfl := hw.symm; cases b)
    all_goals (go_wp2; go_ret; exact ⟨rfl, rfl⟩)

/-- the places of the script's first j entries -/
def dn (z : Nat → Int) : Nat → Nat → Bool
  | 0 => fun _ => false
  | j + 1 => off (dn z j) (z j).toNat

/-- the script is good up to j: each entry is a place, and new -/
def Good (z : Nat → Int) (n j : Nat) : Prop := ∀ t, t < j → 0 ≤ z t ∧ z t < n ∧ dn z t (z t).toNat = false
theorem Good.step {z : Nat → Int} {n j p : Nat} (h : Good z n j) (hp : z j = p) (hpn : p < n) (hd : dn z j p = false) : Good z n (j + 1) := by
  intro t ht
  by_cases e : t = j
  · subst e; rw [hp]; simpa using ⟨hpn, hd⟩
  · exact h t (by omega)

/-- WHAT HOLDS IN THE FIRST LOOP -/
structure Pk (w wr : World) (n j : Nat) (z : Nat → Int) : Prop where
  bel : Below w.heap.size w wr
  size : wr.heap.size = w.heap.size + 1
  row : wr.rowIs w.heap.size 4 n (fun i => .bool (dn z j i))
  good : Good z n j
theorem pk_start (w : World) (n : Nat) (z : Nat → Int) : Pk w (w.alloc (.cells (madeCells #[.bool false] n) 4)) n 0 z :=
  ⟨(Below.refl _ _).alloc (Nat.le_refl _) _, by simp, World.rowIs_made w (.bool false) n 4, fun t ht => absurd ht (Nat.not_lt_zero _)⟩
theorem pk_step {w wr : World} {n j p : Nat} {z : Nat → Int} (h : Pk w wr n j z) (hp : z j = p) (hpn : p < n) (hd : dn z j p = false) : Pk w (wr.setCell ⟨w.heap.size, p, none⟩ (.bool true)) n (j + 1) z :=
  ⟨h.bel.setCell (Nat.le_refl _) _, by simpa using h.size, (h.row.set p _).congr fun i _ => by simp only [dn, off, hp, Int.toNat_natCast]; split <;> rfl, h.good.step hp hpn hd⟩

theorem Src.later {w w' : World} {k : IntKind} {a : Option Addr} {n : Nat} {f : Nat → Int} (h : Src w k a n f) (hb : Below w.heap.size w w') : Src w' k a n f := by
  rcases h with h | ⟨b, of, rfl, hlt, hc⟩
  · exact .inl h
  · exact .inr ⟨b, of, rfl, Nat.lt_of_lt_of_le hlt hb.size, fun j hj => (hb.cell (p := ⟨b, of + j, none⟩) hlt).trans (hc j hj)⟩

/-- WHAT HOLDS IN THE SECOND LOOP: w2: the world ahead of the line's making; k nodes are made -/
structure Bd (w2 wr : World) (n k : Nat) (S : Nat → Int) : Prop where
  bel : Below w2.heap.size w2 wr
  size : wr.heap.size = w2.heap.size + 2 + k
  ends : wr.rowIs w2.heap.size 31 2 (endsF (w2.heap.size + 2) none none)
  row : wr.rowIs (w2.heap.size + 1) 29 n (upTo (.pointer none) (fun j => .pointer (some ⟨w2.heap.size + 2 + j, 0, none⟩)) k)
  node : ∀ i, i < k → Node wr (w2.heap.size + 2 + i) (S i) none none
theorem bd_start (w2 : World) (n : Nat) (S : Nat → Int) : Bd w2 ((w2.alloc (.cells #[.pointer none, .pointer none] 31)).alloc (.cells (madeCells #[.pointer none] n) 29)) n 0 S := by
  refine ⟨((Below.refl _ _).alloc (Nat.le_refl _) _).alloc (by simp) _, by simp, ?_, ?_, fun i hi => absurd hi (Nat.not_lt_zero _)⟩
  · refine (World.rowIs_alloc w2 #[.pointer none, .pointer none] 31 _ fun i hi => ?_).alloc _
    simp at hi
    match i, hi with
    | 0, _ => rfl
    | 1, _ => rfl
  · have := World.rowIs_made (w2.alloc (.cells #[.pointer none, .pointer none] 31)) (.pointer none) n 29
    rw [World.size_alloc] at this
    exact this.congr fun i _ => (upTo_zero _ _ i).symm
theorem bd_step {w2 wr : World} {n k : Nat} {S : Nat → Int} {c : Array Value} (h : Bd w2 wr n k S) (c0 : c[0]? = some (.int .u64 (S k))) (c1 : c[16]? = some (.pointer none)) (c2 : c[17]? = some (.pointer none)) :
    Bd w2 ((wr.alloc (.cells c 49)).setCell ⟨w2.heap.size + 1, k, none⟩ (.pointer (some ⟨w2.heap.size + 2 + k, 0, none⟩))) n (k + 1) S := by
  have hs := h.size
  refine ⟨(h.bel.alloc (by omega) _).setCell (by dsimp only; omega) _, by rw [World.size_setCell, World.size_alloc, hs]; omega, (h.ends.alloc _).setOther (by dsimp only; omega) _,
    ((h.row.alloc _).set k _).congr fun i _ => upTo_step _ (fun j => .pointer (some ⟨w2.heap.size + 2 + j, 0, none⟩)) k i, fun i hi => ?_⟩
  refine Node.other ?_ (by dsimp only; omega) _
  by_cases e : i = k
  · subst e
    rw [← hs]
    exact ⟨c, Go.Deep.blk_alloc_new _ _, c0, c1, c2⟩
  · exact (h.node i (by omega)).of_block (Below.heap_alloc _ _ _ (h.node i (by omega)).lt)

/-- WHAT HOLDS IN THE THIRD LOOP: k nodes are linked -/
structure Lk (w2 wr : World) (n k : Nat) (S : Nat → Int) : Prop where
  bel : Below w2.heap.size w2 wr
  size : wr.heap.size = w2.heap.size + 2 + n
  ends : wr.rowIs w2.heap.size 31 2 (endsF (w2.heap.size + 2) none none)
  row : wr.rowIs (w2.heap.size + 1) 29 n (fun j => .pointer (some ⟨w2.heap.size + 2 + j, 0, none⟩))
  node : ∀ i, i < n → Node wr (w2.heap.size + 2 + i) (S i) (if i < k then pa (w2.heap.size + 2) (prv0 i) else none) (if i < k then pa (w2.heap.size + 2) (nxt0 n i) else none)
theorem lk_start {w2 wr : World} {n : Nat} {S : Nat → Int} (h : Bd w2 wr n n S) : Lk w2 wr n 0 S :=
  ⟨h.bel, h.size, h.ends, h.row.congr fun i hi => by simp [upTo, hi], fun i hi => by simpa using h.node i hi⟩
theorem lk_step {w2 wr : World} {n k : Nat} {S : Nat → Int} (h : Lk w2 wr n k S) (hk : k < n) (p q : Option Addr) (hp : p = pa (w2.heap.size + 2) (prv0 k)) (hq : q = pa (w2.heap.size + 2) (nxt0 n k)) :
    Lk w2 ((wr.setCell ⟨w2.heap.size + 2 + k, 16, none⟩ (.pointer p)).setCell ⟨w2.heap.size + 2 + k, 17, none⟩ (.pointer q)) n (k + 1) S := by
  subst hp; subst hq
  refine ⟨(h.bel.setCell (by dsimp only; omega) _).setCell (by dsimp only; omega) _, by rw [World.size_setCell, World.size_setCell]; exact h.size, (h.ends.setOther (by dsimp only; omega) _).setOther (by dsimp only; omega) _,
    (h.row.setOther (by dsimp only; omega) _).setOther (by dsimp only; omega) _, fun i hi => ?_⟩
  have hn := h.node i hi
  by_cases e : i = k
  · subst e
    rw [if_pos (by omega), if_pos (by omega)]
    exact (hn.setPrev _).setNext _
  · have hiff : i < k + 1 ↔ i < k := by omega
    simp only [hiff]
    exact (hn.other (by dsimp only; omega) _).other (by dsimp only; omega) _

/-- WHAT HOLDS IN THE LAST LOOP: the line, without the places g; GB: the block of 'gone' -/
structure Fin (w2 wr : World) (n GB : Nat) (S : Nat → Int) (g : Nat → Bool) : Prop where
  bel : Below w2.heap.size w2 wr
  chain : ∃ P Q F K, Chain wr w2.heap.size (w2.heap.size + 2) n S g P Q F K
  row : wr.rowIs (w2.heap.size + 1) 29 n (fun j => .pointer (some ⟨w2.heap.size + 2 + j, 0, none⟩))
  gone : wr.rowIs GB 4 n (fun i => .bool (g i))
  gb : w2.heap.size + 2 + n ≤ GB

theorem Fin.later {w2 wr w' : World} {n GB : Nat} {S : Nat → Int} {g : Nat → Bool} (h : Fin w2 wr n GB S g) (hb : Below wr.heap.size wr w') : Fin w2 w' n GB S g := by
  obtain ⟨P, Q, F, K, hc⟩ := h.chain
  exact ⟨h.bel.trans (hb.mono h.bel.size), ⟨P, Q, F, K, hc.carry fun b hlt => hb.block b hlt⟩, h.row.of_block (hb.block _ h.row.lt), h.gone.of_block (hb.block _ h.gone.lt), h.gb⟩

theorem fin_start {w2 wr : World} {n q GB : Nat} {S : Nat → Int} (h : Lk w2 wr n n S) (hq : q + 1 = n) (hGB : wr.heap.size = GB) (c : Nat) :
    Fin w2 ((((wr.setCell ⟨w2.heap.size, 0, none⟩ (.pointer (some ⟨w2.heap.size + 2, 0, none⟩))).setCell ⟨w2.heap.size, 1, none⟩ (.pointer (some ⟨w2.heap.size + 2 + q, 0, none⟩))).alloc (.cells (madeCells #[.bool false] n) 4)).drewN c) n GB S (fun _ => false) := by
  have hs := h.size
  have he := (((h.ends.set 0 (.pointer (some ⟨w2.heap.size + 2, 0, none⟩))).set 1 (.pointer (some ⟨w2.heap.size + 2 + q, 0, none⟩))).alloc (.cells (madeCells #[.bool false] n) 4)).congr (g := endsF (w2.heap.size + 2) (some 0) (some q)) (fun i hi => by
    match i, hi with
    | 0, _ => simp [endsF, pa]
    | 1, _ => simp [endsF, pa])
  have hb := (((h.bel.setCell (p := ⟨w2.heap.size, 0, none⟩) (Nat.le_refl _) (.pointer (some ⟨w2.heap.size + 2, 0, none⟩))).setCell (p := ⟨w2.heap.size, 1, none⟩) (Nat.le_refl _) (.pointer (some ⟨w2.heap.size + 2 + q, 0, none⟩))).alloc (by simp; omega) (.cells (madeCells #[.bool false] n) 4))
  have hr := ((h.row.setOther (a := ⟨w2.heap.size, 0, none⟩) (by dsimp only; omega) (.pointer (some ⟨w2.heap.size + 2, 0, none⟩))).setOther (a := ⟨w2.heap.size, 1, none⟩) (by dsimp only; omega) (.pointer (some ⟨w2.heap.size + 2 + q, 0, none⟩))).alloc (.cells (madeCells #[.bool false] n) 4)
  have hg := World.rowIs_made ((wr.setCell ⟨w2.heap.size, 0, none⟩ (.pointer (some ⟨w2.heap.size + 2, 0, none⟩))).setCell ⟨w2.heap.size, 1, none⟩ (.pointer (some ⟨w2.heap.size + 2 + q, 0, none⟩))) (.bool false) n 4
  rw [World.size_setCell, World.size_setCell, hGB] at hg
  refine ⟨⟨hb.os, hb.tape, hb.output, hb.size, hb.block⟩, ⟨prv0, nxt0 n, some 0, some q, ⟨by omega, he, ⟨Nat.le_refl _, by omega, rfl, fun k a b => by omega⟩, ⟨by omega, rfl, fun k a b => by omega⟩, fun i hi => ?_, fun i _ _ => isPrv0 i, fun i _ _ => isNxt0 n i⟩⟩, hr, hg, by omega⟩
  have hn := h.node i hi
  rw [if_pos hi, if_pos hi] at hn
  exact (((hn.other (a := ⟨w2.heap.size, 0, none⟩) (by dsimp only; omega) (.pointer (some ⟨w2.heap.size + 2, 0, none⟩))).other (a := ⟨w2.heap.size, 1, none⟩) (by dsimp only; omega) (.pointer (some ⟨w2.heap.size + 2 + q, 0, none⟩))).of_block
    (w' := ((wr.setCell ⟨w2.heap.size, 0, none⟩ (.pointer (some ⟨w2.heap.size + 2, 0, none⟩))).setCell ⟨w2.heap.size, 1, none⟩ (.pointer (some ⟨w2.heap.size + 2 + q, 0, none⟩))).alloc (.cells (madeCells #[.bool false] n) 4))
    (Below.heap_alloc _ _ _ (by simp; omega)))

/-- behind the removal of p, and the mark in 'gone' -/
theorem fin_rem {w2 wr : World} {n GB p : Nat} {S : Nat → Int} {g : Nat → Bool} (h : Fin w2 wr n GB S g) {P Q : Nat → Option Nat} {F K : Option Nat} (hc : Chain wr w2.heap.size (w2.heap.size + 2) n S g P Q F K) (hp : p < n) (hg : g p = false) (c : Nat) (w' : World)
    (hw : w' = (remW wr w2.heap.size (w2.heap.size + 2) p (P p) (Q p)).drewN c) :
    Fin w2 (w'.setCell ⟨GB, p, none⟩ (.bool true)) n GB S (off g p) ∧ w'.rowIs GB 4 n (fun i => .bool (g i)) ∧ w'.rowIs (w2.heap.size + 1) 29 n (fun j => .pointer (some ⟨w2.heap.size + 2 + j, 0, none⟩)) ∧
      Node (w'.setCell ⟨GB, p, none⟩ (.bool true)) (w2.heap.size + 2 + p) (S p) none none := by
  have hP := hc.prv p hp hg
  have hQ := hc.nxt p hp hg
  have hPn : ∀ a, P p = some a → a < n := fun a ha => by rw [ha] at hP; have := hP.lt; omega
  have hQn : ∀ a, Q p = some a → a < n := fun a ha => by rw [ha] at hQ; exact hQ.lt.2
  have hgb := h.gb
  have hk := remW_block wr w2.heap.size (w2.heap.size + 2) n p (P p) (Q p) hp hPn hQn
  have ho := remW_os wr w2.heap.size (w2.heap.size + 2) p (P p) (Q p)
  have hsz := remW_size wr w2.heap.size (w2.heap.size + 2) p (P p) (Q p)
  have hc' := hc.rem hp hg
  have hb' : Below w2.heap.size wr w' := by
    rw [hw]
    exact ⟨ho.1, ho.2.1, ho.2.2, by show wr.heap.size ≤ (remW wr w2.heap.size (w2.heap.size + 2) p (P p) (Q p)).heap.size; omega, fun k hk' => hk k (by omega) (by omega)⟩
  have hgo : w'.rowIs GB 4 n (fun i => .bool (g i)) := by rw [hw]; exact h.gone.of_block (hk GB (by omega) (by omega))
  have hro : w'.rowIs (w2.heap.size + 1) 29 n (fun j => .pointer (some ⟨w2.heap.size + 2 + j, 0, none⟩)) := by rw [hw]; exact h.row.of_block (hk (w2.heap.size + 1) (by omega) (by omega))
  have hch : Chain w' w2.heap.size (w2.heap.size + 2) n S (off g p) (remP p P Q) (remQ p P Q) (remF p P Q F) (remK p P Q K) := by rw [hw]; exact hc'.block rfl (fun _ _ => rfl)
  have hch2 : Chain (w'.setCell ⟨GB, p, none⟩ (.bool true)) w2.heap.size (w2.heap.size + 2) n S (off g p) (remP p P Q) (remQ p P Q) (remF p P Q F) (remK p P Q K) :=
    hch.block (Below.heap_setCell _ _ _ _ (by dsimp only; omega)) (fun i hi => Below.heap_setCell _ _ _ _ (by dsimp only; omega))
  refine ⟨⟨(h.bel.trans hb').setCell (by dsimp only; omega) _, ⟨_, _, _, _, hch2⟩, hro.setOther (by dsimp only; omega) _, (hgo.set p _).congr fun i _ => by simp only [off]; split <;> rfl, hgb⟩, hgo, hro, ?_⟩
  have := hch2.node p hp
  rw [remP_self, remQ_self] at this
  exact this

set_option maxRecDepth 100000 in
set_option maxHeartbeats 4000000 in
theorem main_short (a0 : Option Addr) (n c0 : Nat) (a1 : Option Addr) (m c1 : Nat) (S z : Nat → Int) (w : World) (hn : n ≤ 1024) (hm : m ≤ 1024) (ha0 : a0 = none → n = 0) (ha1 : a1 = none → m = 0)
    (s0 : Src w .u64 a0 n S) (s1 : Src w .i64 a1 m z) :
    Calls Try.prog 3 #[.slice a0 n c0, .slice a1 m c1] w fun e w' => e = .returned (.bool true) ∧ Below w.heap.size w w' := by
  have hmk4 := run_make_row' (P := Try.prog) 25 4 (.bool false) 1 Try.underlying25 Try.info4 rfl .i64 .i64 n (by omega) (by omega)
  have hmk29 := run_make_row' (P := Try.prog) 32 29 (.pointer none) 8 Try.underlying32 Try.info29 rfl .i64 .i64 n (by omega) (by omega)
  have Z : Hid (Calls Try.prog 4 #[.slice a0 n c0, .slice a1 m c1] w fun e w' => e = .returned (.bool true) ∧ w' = w) := zzb_yes a0 n c0 a1 m c1 w hn hm
  go_enter Try.func3, Try.ntmps3
  go_wp2_with (go_at_call 4; refine Z.out.mono ?_; rintro e w' ⟨rfl, hw⟩; obtain rfl := hw.symm)
  go_loopw [7] (fun i wr => ∃ j : Nat, j ≤ m ∧ i = .int .i64 j ∧ Pk w wr n j z) (fun i _ => m - (intOf i).toNat)
  case atStart => exact ⟨0, Nat.zero_le _, rfl, pk_start _ _ _⟩
  case round =>
    obtain ⟨j, hj, rfl, hpk⟩ := hrel
    by_cases hjm : j < m
    · rcases s1 with s1 | ⟨b, of, rfl, hb, hc⟩
      · omega
      have cz : wr.cell? ⟨b, of + j, none⟩ = some (.int .i64 (z j)) := (hpk.bel.cell (by exact hb)).trans (hc j hjm)
      by_cases hneg : z j < 0
      · go_wp2
        go_ret
        exact ⟨rfl, hpk.bel⟩
      by_cases hbig : (n : Int) ≤ z j
      · go_wp2
        go_ret
        exact ⟨rfl, hpk.bel⟩
      obtain ⟨p, hp⟩ : ∃ p : Nat, z j = p := ⟨(z j).toNat, by omega⟩
      have hpn : p < n := by omega
      have cp := hpk.row.cell hpn
      have fp := hpk.row.frozen p
      cases hd : dn z j p with
      | true =>
        rw [hd] at cp
        rw [hp] at cz hneg hbig
        clear hd hp
        go_wp2
        go_ret
        exact ⟨rfl, hpk.bel⟩
      | false =>
        have R : Hid (Pk w (wr.setCell ⟨w.heap.size, p, none⟩ (.bool true)) n (j + 1) z) := pk_step hpk hp hpn hd
        rw [hd] at cp
        rw [hp] at cz hneg hbig
        clear hd hp hpk
        go_wp2
        go_roundw
        case rel => exact ⟨j + 1, by omega, by go_num, R.out⟩
        case measure => simp [intOf]; omega
    · obtain rfl : m = j := by omega
      have s0r := s0.later hpk.bel
      have C5 := hidden (cloneU64_any a0 n c0 S wr hn ha0 s0r)
      have B1 := hpk.bel
      have G := hpk.good
      have Z1 := hpk.size
      have SZ1 : Hid (wr.heap.size = w.heap.size + 1) := Z1
      clear hpk s0r Z1 s0 Z
      go_wp2_with fail
      refine C5.out.mono ?_
      rintro e w1 ⟨a0', rfl, hb1, hr1⟩
      have B2 : Below w.heap.size w w1 := B1.trans (hb1.mono (by have := SZ1.out; omega))
      have C6 := hidden (cloneInts_any a1 m c1 z w1 hm ha1 (s1.later B2))
      clear s1 C5
      go_wp2_with fail
      refine C6.out.mono ?_
      rintro e w2 ⟨a1', rfl, hb2, hr2⟩
      have B3 : Below w.heap.size w w2 := B2.trans (hb2.mono B2.size)
      have hq1 : 0 < n → a0' = some ⟨wr.heap.size, 0, none⟩ ∧ w2.rowIs wr.heap.size 34 n (fun j => .int .u64 (S j)) := fun h => ⟨(hr1 h).1, (hr1 h).2.of_block (hb2.block _ (hr1 h).2.lt)⟩
      obtain ⟨SB, hSB⟩ : ∃ SB, wr.heap.size = SB := ⟨_, rfl⟩
      obtain ⟨OB, hOB⟩ : ∃ OB, w1.heap.size = OB := ⟨_, rfl⟩
      rw [hSB] at hq1
      rw [hOB] at hr2
      clear hr1 C6 hSB hOB B1 B2 SZ1 hb1 hb2
      go_wp2_with fail
      go_loopw [11] (fun i wx => ∃ k : Nat, k ≤ n ∧ i = .int .i64 k ∧ Bd w2 wx n k S) (fun i _ => n - (intOf i).toNat)
      case atStart => exact ⟨0, Nat.zero_le _, rfl, bd_start _ _ _⟩
      case round =>
        obtain ⟨k, hk, rfl, hbd⟩ := hrel
        by_cases hkn : k < n
        · obtain ⟨rfl, hrow⟩ := hq1 (by omega)
          have cs : wr.cell? ⟨SB, k, none⟩ = some (.int .u64 (S k)) := (hbd.bel.cell (by exact hrow.lt)).trans (hrow.cell hkn)
          go_wp2_with fail
          refine (new_any _ _).mono ?_
          rintro e w' ⟨rfl, c, hw, k0, k1, k2⟩
          obtain ⟨v0, cw⟩ : ∃ v, w'.cell? ⟨w2.heap.size + 1, k, none⟩ = some v := ⟨_, by rw [hw]; exact (hbd.row.alloc _).cell hkn⟩
          have fw : w'.frozen? ⟨w2.heap.size + 1, k, none⟩ = false := by rw [hw]; exact (hbd.row.alloc _).frozen k
          have R : Hid (Bd w2 (w'.setCell ⟨w2.heap.size + 1, k, none⟩ (.pointer (some ⟨wr.heap.size, 0, none⟩))) n (k + 1) S) := by rw [hw, hbd.size]; exact bd_step hbd k0 k1 k2
          clear hw k0 k1 k2
          go_wp2
          go_roundw
          case rel => exact ⟨k + 1, by omega, by go_num, R.out⟩
          case measure => simp [intOf]; omega
        · obtain rfl : n = k := by omega
          have hlk := lk_start hbd
          clear hbd
          go_wp2_with fail
          go_loopw [12] (fun i wx => ∃ k : Nat, k ≤ n ∧ i = .int .i64 k ∧ Lk w2 wx n k S) (fun i _ => n - (intOf i).toNat)
          case atStart => exact ⟨0, Nat.zero_le _, rfl, hlk⟩
          case round =>
            clear hlk
            obtain ⟨k, hk, rfl, hlk⟩ := hrel
            by_cases hkn : k < n
            · have cn : wr.cell? ⟨w2.heap.size + 1, k, none⟩ = some (.pointer (some ⟨w2.heap.size + 2 + k, 0, none⟩)) := hlk.row.cell hkn
              have nd := hidden (hlk.node k hkn)
              have HL := hidden hlk
              by_cases h1 : k + 1 < n
              · have cn1 : wr.cell? ⟨w2.heap.size + 1, k + 1, none⟩ = some (.pointer (some ⟨w2.heap.size + 2 + (k + 1), 0, none⟩)) := hlk.row.cell h1
                have e1 : Hid (some ⟨w2.heap.size + 2 + (k + 1), 0, none⟩ = pa (w2.heap.size + 2) (nxt0 n k)) := by unfold Hid nxt0; rw [if_pos h1]; rfl
                clear hlk
                by_cases h0 : 0 < k
                · obtain ⟨q, rfl⟩ : ∃ q, k = q + 1 := ⟨k - 1, by omega⟩
                  have cnq : wr.cell? ⟨w2.heap.size + 1, q, none⟩ = some (.pointer (some ⟨w2.heap.size + 2 + q, 0, none⟩)) := HL.out.row.cell (by omega)
                  go_wp2_with fail
                  refine (links_any _ _ _ _ _ _ _ nd.out).mono ?_
                  rintro e w' ⟨rfl, hw⟩
                  have R : Hid (Lk w2 w' n ((q + 1) + 1) S) := by rw [hw]; exact lk_step HL.out hkn _ _ rfl e1.out
                  clear hw
                  go_wp2
                  go_roundw
                  case rel => exact ⟨(q + 1) + 1, by omega, by go_num, R.out⟩
                  case measure => simp [intOf]; omega
                · have e0 : Hid (none = pa (w2.heap.size + 2) (prv0 k)) := by unfold Hid prv0; rw [if_pos (by omega)]; rfl
                  go_wp2_with fail
                  refine (links_any _ _ _ _ _ _ _ nd.out).mono ?_
                  rintro e w' ⟨rfl, hw⟩
                  have R : Hid (Lk w2 w' n (k + 1) S) := by rw [hw]; exact lk_step HL.out hkn _ _ e0.out e1.out
                  clear hw
                  go_wp2
                  go_roundw
                  case rel => exact ⟨k + 1, by omega, by go_num, R.out⟩
                  case measure => simp [intOf]; omega
              · have e1 : Hid (none = pa (w2.heap.size + 2) (nxt0 n k)) := by unfold Hid nxt0; rw [if_neg h1]; rfl
                clear hlk
                by_cases h0 : 0 < k
                · obtain ⟨q, rfl⟩ : ∃ q, k = q + 1 := ⟨k - 1, by omega⟩
                  have cnq : wr.cell? ⟨w2.heap.size + 1, q, none⟩ = some (.pointer (some ⟨w2.heap.size + 2 + q, 0, none⟩)) := HL.out.row.cell (by omega)
                  go_wp2_with fail
                  refine (links_any _ _ _ _ _ _ _ nd.out).mono ?_
                  rintro e w' ⟨rfl, hw⟩
                  have R : Hid (Lk w2 w' n ((q + 1) + 1) S) := by rw [hw]; exact lk_step HL.out hkn _ _ rfl e1.out
                  clear hw
                  go_wp2
                  go_roundw
                  case rel => exact ⟨(q + 1) + 1, by omega, by go_num, R.out⟩
                  case measure => simp [intOf]; omega
                · have e0 : Hid (none = pa (w2.heap.size + 2) (prv0 k)) := by unfold Hid prv0; rw [if_pos (by omega)]; rfl
                  go_wp2_with fail
                  refine (links_any _ _ _ _ _ _ _ nd.out).mono ?_
                  rintro e w' ⟨rfl, hw⟩
                  have R : Hid (Lk w2 w' n (k + 1) S) := by rw [hw]; exact lk_step HL.out hkn _ _ e0.out e1.out
                  clear hw
                  go_wp2
                  go_roundw
                  case rel => exact ⟨k + 1, by omega, by go_num, R.out⟩
                  case measure => simp [intOf]; omega
            · obtain rfl : n = k := by omega
              by_cases hn0 : 0 < n
              · obtain ⟨q, hq⟩ : ∃ q, q + 1 = n := ⟨n - 1, by omega⟩
                obtain ⟨rfl, hrow⟩ := hq1 hn0
                clear hq1
                have d0 : wr.cell? ⟨w2.heap.size + 1, 0, none⟩ = some (.pointer (some ⟨w2.heap.size + 2, 0, none⟩)) := hlk.row.cell (by omega)
                have cq : wr.cell? ⟨w2.heap.size + 1, q, none⟩ = some (.pointer (some ⟨w2.heap.size + 2 + q, 0, none⟩)) := hlk.row.cell (by omega)
                have hwq : IntKind.i64.wrap ((n : Int) - 1) = (q : Int) := by rw [IntKind.wrap_i64]; omega
                have hq0 : (0 : Int) ≤ (q : Int) := by omega
                have hq1' : (q : Int) < (n : Int) := by omega
                have hq2 : (0 : Int) < (n : Int) := by omega
                have HQ := hidden hq
                clear hq
                have hl := hidden hlk.ends
                have HL := hidden hlk
                clear hlk
                go_upto_if 35 with fail
                go_cut [] (fun wx => wx = ((wr.setCell ⟨w2.heap.size, 0, none⟩ (.pointer (some ⟨w2.heap.size + 2, 0, none⟩))).setCell ⟨w2.heap.size, 1, none⟩ (.pointer (some ⟨w2.heap.size + 2 + q, 0, none⟩))).drew)
                case first =>
                  go_wp2_with fail
                  go_region_with (go_at_call 9; refine (ends_any _ _ _ (endsF (w2.heap.size + 2) none none) _ (by exact hl.out)).mono ?_; rintro e w' ⟨rfl, hw⟩; rw [hw])
                  all_goals (go_wp2_with fail; go_meet; rfl)
                case rest =>
                  subst hcut
                  go_wp2_with fail
                  obtain ⟨GB, hGB⟩ : ∃ GB, wr.heap.size = GB := ⟨_, rfl⟩
                  rw [hGB]
                  have F0 := hidden (fin_start HL.out HQ.out hGB 1)
                  clear hGB HL hl d0 cq hwq
                  go_loopw [16] (fun j wx => ∃ t : Nat, t ≤ m ∧ j = .int .i64 t ∧ Fin w2 wx n GB S (dn z t)) (fun j _ => m - (intOf j).toNat)
                  case atStart => exact ⟨0, Nat.zero_le _, rfl, F0.out⟩
                  case round =>
                    clear F0
                    obtain ⟨t, ht, rfl, hfin⟩ := hrel
                    by_cases htm : t < m
                    · obtain ⟨rfl, hor⟩ := hr2 (by omega)
                      obtain ⟨g1, g2, g3⟩ := G t htm
                      obtain ⟨p, hp⟩ : ∃ p : Nat, z t = p := ⟨(z t).toNat, by omega⟩
                      rw [hp] at g1 g2 g3
                      rw [Int.toNat_natCast] at g3
                      have hpn : p < n := by omega
                      have co : wr.cell? ⟨OB, t, none⟩ = some (.int .i64 p) := by rw [← hp]; exact (hfin.bel.cell (by exact hor.lt)).trans (hor.cell htm)
                      have cn : wr.cell? ⟨w2.heap.size + 1, p, none⟩ = some (.pointer (some ⟨w2.heap.size + 2 + p, 0, none⟩)) := hfin.row.cell hpn
                      obtain ⟨P, Q, F, K, hch⟩ := hfin.chain
                      have HR := hidden (zzremove_any hch hpn g3)
                      have HF := hidden (fun (c : Nat) (w' : World) hw => fin_rem hfin hch hpn g3 c w' hw)
                      have e1 : Hid (dn z (t + 1) = off (dn z t) p) := by unfold Hid; simp [dn, hp]
                      clear hfin hch hp
                      go_wp2_with fail
                      refine HR.out.mono ?_
                      rintro e w' ⟨rfl, c, hw⟩
                      obtain ⟨F1, hgo, hro, hnd⟩ := HF.out c w' hw
                      have HN := hidden hnd
                      have H1 := hidden F1
                      have cg := hgo.cell hpn
                      have fg := hgo.frozen p
                      have cr := hro.cell hpn
                      have hne : w2.heap.size + 1 ≠ GB := by have := F1.gb; omega
                      have hne2 : GB ≠ w2.heap.size + 1 := fun h => hne h.symm
                      clear hw HF HR hnd hgo hro F1 co cn
                      go_wp2_with (first | (go_at_call 11; refine (prev_any _ _ _ (by exact HN.out.prev)).mono ?_; rintro e w' ⟨rfl, hw⟩; obtain rfl := hw.symm) | (go_at_call 12; refine (next_any _ _ _ (by exact HN.out.next)).mono ?_; rintro e w' ⟨rfl, hw⟩; obtain rfl := hw.symm))
                      obtain ⟨P1, Q1, F1, K1, hch1⟩ := H1.out.chain
                      refine (reads_any hch1 hn (hrow.of_block (H1.out.bel.block _ hrow.lt)) H1.out.gone).mono ?_
                      rintro e w3 ⟨rfl, hb3⟩
                      have R : Hid (Fin w2 w3 n GB S (dn z (t + 1))) := by unfold Hid; rw [e1.out]; exact H1.out.later hb3
                      clear hb3 hch1
                      go_wp2
                      go_roundw
                      case rel => exact ⟨t + 1, by omega, by go_num, R.out⟩
                      case measure => simp [intOf]; omega
                    · obtain rfl : m = t := by omega
                      go_wp2
                      go_ret
                      exact ⟨rfl, B3.trans (hfin.bel.mono B3.size)⟩
              · have hm0 : ¬ 0 < m := fun h => by have := G 0 h; omega
                go_wp2_with fail
                refine wp_loop_rounds 1 ?_
                rw [rounds_succ]
                go_wp2
                go_ret
                exact ⟨rfl, (B3.trans (hlk.bel.mono B3.size)).alloc (Nat.le_trans B3.size hlk.bel.size) _⟩
end Go.Proofs.Qxb6617730a
