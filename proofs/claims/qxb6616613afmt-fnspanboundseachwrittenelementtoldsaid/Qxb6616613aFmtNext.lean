/-
  Fields: what stands in memory between two calls; typeSet.add, take, Next over it.
-/
import Derived.Test.Qxb6616613aFmtFields
namespace Go.Proofs.Qxb6616613aFmt
open Go.ChangeShapes Go.WideShapes Go.ChangeAt Go.RowKit
set_option linter.unusedVariables false

theorem Tryf.info28 : (Tryf.prog.info? 28).map (fun i => (i.zero, i.size, i.bytes)) = some (some (.int .u64 0), 1, 8) := by kernel_rfl

/-- the value's block g, the Fields' block fb, and its set of types (at most K of them aside) -/
structure St (w : World) (B g fb : Nat) (gc : Array Value) (v : Value) (a b : Int) (K : Nat) : Prop where
  low : B ≤ w.heap.size
  above : B ≤ fb
  val : w.heap[g]? = some (.cells gc 5 (0, 0))
  rest : ∃ l0 l1 l2 l3 m mn L, w.heap[fb]? = some (.cells (FC v a a b l0 l1 l2 l3 m) 51 (0, 0)) ∧ w.ownsRow B 28 1 m mn (uns L) ∧ mn ≤ K

theorem own_of_block {w w' : World} {B e sz n : Nat} {m : Value} {xs : List Value} (h : w.ownsRow B e sz m n xs) (hk : ∀ k, m.ownBlock = some k → w'.heap[k]? = w.heap[k]?) : w'.ownsRow B e sz m n xs := by
  refine ⟨h.1, ?_⟩
  rcases h.2 with hn | ⟨g, cap, cur, rfl, hb, hg, r⟩
  · exact .inl hn
  · exact .inr ⟨g, cap, cur, rfl, hb, (hk g rfl).trans hg, r⟩
theorem own_type {w : World} {B e sz n : Nat} {m : Value} {xs : List Value} (h : w.ownsRow B e sz m n xs) {k : Nat} {cs : Array Value} {t : TypeId} {fr : Nat × Nat} (hk : w.heap[k]? = some (.cells cs t fr)) (hne : t ≠ e) : m.ownBlock ≠ some k := by
  intro hm
  rcases h.2 with ⟨rfl, _⟩ | ⟨g, cap, cur, rfl, hb, hg, r⟩
  · cases hm
  · have : g = k := by simpa [Value.ownBlock] using hm
    subst this
    rw [hg] at hk
    injection hk with hk
    injection hk with _ h2 _
    exact hne h2.symm

theorem St.fg {w : World} {B g fb : Nat} {gc : Array Value} {v : Value} {a b : Int} {K : Nat} (h : St w B g fb gc v a b K) : g ≠ fb := by
  intro e
  obtain ⟨l0, l1, l2, l3, m, mn, L, hf, _⟩ := h.rest
  have hv := h.val
  rw [e, hf] at hv
  injection hv with hv
  injection hv with _ h2 _
  cases h2

/-- blocks that were there stand as they did -/
theorem St.later {w w' : World} {B g fb : Nat} {gc : Array Value} {v : Value} {a b : Int} {K : Nat} (h : St w B g fb gc v a b K) (hs : w.heap.size ≤ w'.heap.size) (hb : ∀ k, k < w.heap.size → w'.heap[k]? = w.heap[k]?) : St w' B g fb gc v a b K := by
  obtain ⟨l0, l1, l2, l3, m, mn, L, hf, hm, hK⟩ := h.rest
  exact ⟨Nat.le_trans h.low hs, h.above, (hb g (block_lt h.val)).trans h.val, l0, l1, l2, l3, m, mn, L, (hb fb (block_lt hf)).trans hf, own_of_block hm (fun k hk => hb k (hm.lt k hk).2), hK⟩

/-- a cell of the Fields turns -/
theorem St.turn {w : World} {B g fb : Nat} {gc : Array Value} {v : Value} {a b : Int} {K : Nat} (h : St w B g fb gc v a b K) (i : Nat) (x : Value) {a' b' : Int} {K' : Nat}
    (hc : ∀ l0 l1 l2 l3 m mn L, w.heap[fb]? = some (.cells (FC v a a b l0 l1 l2 l3 m) 51 (0, 0)) → w.ownsRow B 28 1 m mn (uns L) → mn ≤ K → ∃ l0' l1' l2' l3' m' mn' L', (FC v a a b l0 l1 l2 l3 m).setIfInBounds i x = FC v a' a' b' l0' l1' l2' l3' m' ∧ w.ownsRow B 28 1 m' mn' (uns L') ∧ mn' ≤ K') :
    St (w.setCell ⟨fb, i, none⟩ x) B g fb gc v a' b' K' := by
  have hne := h.fg
  obtain ⟨l0, l1, l2, l3, m, mn, L, hf, hm, hK⟩ := h.rest
  obtain ⟨l0', l1', l2', l3', m', mn', L', he, hm', hK'⟩ := hc l0 l1 l2 l3 m mn L hf hm hK
  have ht := own_type hm' hf (by decide)
  refine ⟨by simpa using h.low, h.above, ?_, l0', l1', l2', l3', m', mn', L', ?_, ?_, hK'⟩
  · rw [Below.heap_setCell _ _ _ _ hne]; exact h.val
  · rw [heap_setCell_same w fb i _ 51 x hf, he]
  · exact own_of_block hm' (fun k hk => Below.heap_setCell _ _ _ _ (fun e => by cases e; exact ht hk))
theorem FC_get (v : Value) (a r b l0 l1 l2 l3 : Int) (m : Value) (w : World) (fb : Nat) (h : w.heap[fb]? = some (.cells (FC v a r b l0 l1 l2 l3 m) 51 (0, 0))) :
    w.cell? ⟨fb, 0, none⟩ = some v ∧ w.cell? ⟨fb, 1, none⟩ = some (.int .i64 a) ∧ w.cell? ⟨fb, 2, none⟩ = some (.int .i64 r) ∧ w.cell? ⟨fb, 3, none⟩ = some (.int .i64 b) ∧ w.cell? ⟨fb, 4, none⟩ = some (.slice none 0 0) ∧
    w.cell? ⟨fb, 5, none⟩ = some (.int .u64 l0) ∧ w.cell? ⟨fb, 6, none⟩ = some (.int .u64 l1) ∧ w.cell? ⟨fb, 7, none⟩ = some (.int .u64 l2) ∧ w.cell? ⟨fb, 8, none⟩ = some (.int .u64 l3) ∧ w.cell? ⟨fb, 9, none⟩ = some m ∧ w.cell? ⟨fb, 11, none⟩ = some .nilIface ∧ ∀ k, w.frozen? ⟨fb, k, none⟩ = false := by
  refine ⟨?_, ?_, ?_, ?_, ?_, ?_, ?_, ?_, ?_, ?_, ?_, fun k => ?_⟩
  all_goals first
    | (rw [cell_of_row w fb _ _ 51 (0, 0) h]; rfl)
    | (simp [World.frozen?, h])

theorem add_low0 (fb : Nat) (t x : Int) (w : World) (ht : 0 ≤ t) (h64 : t / 64 = 0) (hc : w.cell? ⟨fb, 5, none⟩ = some (.int .u64 x)) (hf : w.frozen? ⟨fb, 5, none⟩ = false) :
    Calls Tryf.prog 19 #[.pointer (some ⟨fb, 5, none⟩), .int .u64 t] w fun e w' => e = .returned (.tuple #[]) ∧ ∃ y, w' = (w.setCell ⟨fb, 5, none⟩ (.int .u64 y)).drew := by
  have q1 : t < 256 := by omega
  go_enter Tryf.func19, Tryf.ntmps19
  go_wp2_with fail
  go_region
  go_wp2
  exact bodyPost_end (v := .tuple #[]) (by simp [results, Tryf.results19, go_sem]) rfl ⟨rfl, _, rfl⟩
theorem add_low1 (fb : Nat) (t x : Int) (w : World) (ht : 0 ≤ t) (h64 : t / 64 = 1) (hc : w.cell? ⟨fb, 6, none⟩ = some (.int .u64 x)) (hf : w.frozen? ⟨fb, 6, none⟩ = false) :
    Calls Tryf.prog 19 #[.pointer (some ⟨fb, 5, none⟩), .int .u64 t] w fun e w' => e = .returned (.tuple #[]) ∧ ∃ y, w' = (w.setCell ⟨fb, 6, none⟩ (.int .u64 y)).drew := by
  have q1 : t < 256 := by omega
  go_enter Tryf.func19, Tryf.ntmps19
  go_wp2_with fail
  go_region
  go_wp2
  exact bodyPost_end (v := .tuple #[]) (by simp [results, Tryf.results19, go_sem]) rfl ⟨rfl, _, rfl⟩
theorem add_low2 (fb : Nat) (t x : Int) (w : World) (ht : 0 ≤ t) (h64 : t / 64 = 2) (hc : w.cell? ⟨fb, 7, none⟩ = some (.int .u64 x)) (hf : w.frozen? ⟨fb, 7, none⟩ = false) :
    Calls Tryf.prog 19 #[.pointer (some ⟨fb, 5, none⟩), .int .u64 t] w fun e w' => e = .returned (.tuple #[]) ∧ ∃ y, w' = (w.setCell ⟨fb, 7, none⟩ (.int .u64 y)).drew := by
  have q1 : t < 256 := by omega
  go_enter Tryf.func19, Tryf.ntmps19
  go_wp2_with fail
  go_region
  go_wp2
  exact bodyPost_end (v := .tuple #[]) (by simp [results, Tryf.results19, go_sem]) rfl ⟨rfl, _, rfl⟩
theorem add_low3 (fb : Nat) (t x : Int) (w : World) (ht : 0 ≤ t) (h64 : t / 64 = 3) (hc : w.cell? ⟨fb, 8, none⟩ = some (.int .u64 x)) (hf : w.frozen? ⟨fb, 8, none⟩ = false) :
    Calls Tryf.prog 19 #[.pointer (some ⟨fb, 5, none⟩), .int .u64 t] w fun e w' => e = .returned (.tuple #[]) ∧ ∃ y, w' = (w.setCell ⟨fb, 8, none⟩ (.int .u64 y)).drew := by
  have q1 : t < 256 := by omega
  go_enter Tryf.func19, Tryf.ntmps19
  go_wp2_with fail
  go_region
  go_wp2
  exact bodyPost_end (v := .tuple #[]) (by simp [results, Tryf.results19, go_sem]) rfl ⟨rfl, _, rfl⟩

theorem St.drew {w : World} {B g fb : Nat} {gc : Array Value} {v : Value} {a b : Int} {K : Nat} (h : St w B g fb gc v a b K) : St w.drew B g fb gc v a b K := h.later (Nat.le_refl _) (fun _ _ => rfl)
theorem St.more {w : World} {B g fb : Nat} {gc : Array Value} {v : Value} {a b : Int} {K : Nat} (h : St w B g fb gc v a b K) : St w B g fb gc v a b (K + 1) := by
  obtain ⟨l0, l1, l2, l3, m, mn, L, hf, hm, hK⟩ := h.rest
  exact ⟨h.low, h.above, h.val, l0, l1, l2, l3, m, mn, L, hf, hm, by omega⟩

theorem add_low {w : World} {B g fb : Nat} {gc : Array Value} {v : Value} {a b : Int} {K : Nat} (h : St w B g fb gc v a b K) (t : Int) (ht : 0 ≤ t) (ht2 : t < 256) :
    Calls Tryf.prog 19 #[.pointer (some ⟨fb, 5, none⟩), .int .u64 t] w fun e w' => e = .returned (.tuple #[]) ∧ St w' B g fb gc v a b (K + 1) ∧ Below B w w' := by
  have hab := h.above
  obtain ⟨l0, l1, l2, l3, m, mn, L, hf, hm, hK⟩ := h.rest
  obtain ⟨c0, c1, c2, c3, c4, c5, c6, c7, c8, c9, c11, fz⟩ := FC_get _ _ _ _ _ _ _ _ _ _ _ hf
  have h4 : t / 64 = 0 ∨ t / 64 = 1 ∨ t / 64 = 2 ∨ t / 64 = 3 := by omega
  rcases h4 with h4 | h4 | h4 | h4
  · exact (add_low0 fb t l0 w ht h4 c5 (fz 5)).mono fun e w' ⟨he, y, hw⟩ => ⟨he, by
      rw [hw]
      exact (h.turn 5 (.int .u64 y) (fun l0 l1 l2 l3 m mn L hf hm hK => ⟨y, l1, l2, l3, m, mn, L, rfl, hm, Nat.le_succ_of_le hK⟩)).drew, by rw [hw]; exact ((Below.refl _ _).setCell (by exact hab) _).drew⟩
  · exact (add_low1 fb t l1 w ht h4 c6 (fz 6)).mono fun e w' ⟨he, y, hw⟩ => ⟨he, by
      rw [hw]
      exact (h.turn 6 (.int .u64 y) (fun l0 l1 l2 l3 m mn L hf hm hK => ⟨l0, y, l2, l3, m, mn, L, rfl, hm, Nat.le_succ_of_le hK⟩)).drew, by rw [hw]; exact ((Below.refl _ _).setCell (by exact hab) _).drew⟩
  · exact (add_low2 fb t l2 w ht h4 c7 (fz 7)).mono fun e w' ⟨he, y, hw⟩ => ⟨he, by
      rw [hw]
      exact (h.turn 7 (.int .u64 y) (fun l0 l1 l2 l3 m mn L hf hm hK => ⟨l0, l1, y, l3, m, mn, L, rfl, hm, Nat.le_succ_of_le hK⟩)).drew, by rw [hw]; exact ((Below.refl _ _).setCell (by exact hab) _).drew⟩
  · exact (add_low3 fb t l3 w ht h4 c8 (fz 8)).mono fun e w' ⟨he, y, hw⟩ => ⟨he, by
      rw [hw]
      exact (h.turn 8 (.int .u64 y) (fun l0 l1 l2 l3 m mn L hf hm hK => ⟨l0, l1, l2, y, m, mn, L, rfl, hm, Nat.le_succ_of_le hK⟩)).drew, by rw [hw]; exact ((Below.refl _ _).setCell (by exact hab) _).drew⟩

set_option maxHeartbeats 400000 in
theorem add_high {w : World} {B g fb : Nat} {gc : Array Value} {v : Value} {a b : Int} {K : Nat} (h : St w B g fb gc v a b K) (t : Int) (ht : 256 ≤ t) (hK : K ≤ 100000) :
    Calls Tryf.prog 19 #[.pointer (some ⟨fb, 5, none⟩), .int .u64 t] w fun e w' => e = .returned (.tuple #[]) ∧ St w' B g fb gc v a b (K + 1) ∧ Below B w w' := by
  obtain ⟨i0, hi, hz0, hz1, hz2⟩ := info_parts Tryf.info28
  have hne := h.fg
  have hab := h.above
  have hlow := h.low
  have hval := h.val
  have HS := hidden h
  clear h
  obtain ⟨l0, l1, l2, l3, m, mn, L, hf, hm, hmK⟩ := HS.out.rest
  obtain ⟨c0, c1, c2, c3, c4, c5, c6, c7, c8, c9, c11, fz⟩ := FC_get _ _ _ _ _ _ _ _ _ _ _ hf
  have H := hidden (contains_any B m mn t L w (by omega) hm)
  have f9 := fz 9
  have ltf := block_lt hf
  have M := hidden hm
  have HF := hidden hf
  have HV := hidden hval
  clear c0 c1 c2 c3 c4 c5 c6 c7 c8 c11 fz hm hf hval
  go_enter Tryf.func19, Tryf.ntmps19
  go_wp2_with fail
  refine H.out.mono ?_
  rintro e w' ⟨⟨r, rfl⟩, hw⟩
  obtain rfl := hw.symm
  clear H
  cases r with
  | true =>
    go_wp2
    exact bodyPost_end (v := .tuple #[]) (by simp [results, Tryf.results19, go_sem]) rfl ⟨rfl, HS.out.more, Below.refl _ _⟩
  | false =>
    go_wp2_with (at_builtin; refine wpList_append_lies _ rfl (.tmp 31) (.tmp 33) 23 rfl B 28 i0 (.int .u64 0) 1 8 Tryf.underlying23 hi hz0 hz1 hz2 rfl (by decide) m mn (uns L) rfl (M.out.alloc _) ⟨w.heap.size, 0, none⟩ 1 1 [.int .u64 t] rfl rfl ?c1 ?c2 (by decide) ?c3 ?c4 ?c5 (w.heap.size + 1) ?c6 ?_)
    case c1 =>
      intro j u hj
      match j, hj with
      | 0, hj => simp at hj; subst hj; simp [Addr.add]
    case c2 => intro u hu; simp at hu; subst hu; rfl
    case c3 => unfold maxLen; omega
    case c4 => omega
    case c5 => simp; omega
    case c6 => simp
    intro g' cap w1 hown hgrow hat hlt
    have hgr := grown1 _ hgrow
    have hf1 : w1.heap[fb]? = some (.cells (FC v a a b l0 l1 l2 l3 m) 51 (0, 0)) := (hgr.block fb ltf (own_type M.out HF.out (by decide)).symm).trans HF.out
    have hv1 : w1.heap[g]? = some (.cells gc 5 (0, 0)) := (hgr.block g (block_lt HV.out) (own_type M.out HV.out (by decide)).symm).trans HV.out
    have B1 : Below B w w1 := (Below.refl _ _).grown hgr hlow (fun k hk => (M.out.lt k hk).1)
    obtain ⟨-, -, -, -, -, -, -, -, -, d9, -, fz1⟩ := FC_get _ _ _ _ _ _ _ _ _ _ _ hf1
    have e9 := fz1 9
    have hne9 := own_type hown hf1 (by decide)
    have S1 := hidden (show St (w1.setCell ⟨fb, 9, none⟩ (.slice (some ⟨g', 0, none⟩) (mn + 1) cap)) B g fb gc v a b (K + 1) from by
      refine ⟨by have := hgr.size; simp; omega, hab, ?_, l0, l1, l2, l3, .slice (some ⟨g', 0, none⟩) (mn + 1) cap, mn + 1, L ++ [t], ?_, ?_, by omega⟩
      · rw [Below.heap_setCell _ _ _ _ hne]; exact hv1
      · rw [heap_setCell_same w1 fb 9 _ 51 _ hf1]; rfl
      · have := own_of_block (w' := w1.setCell ⟨fb, 9, none⟩ (.slice (some ⟨g', 0, none⟩) (mn + 1) cap)) hown (fun k hk => Below.heap_setCell _ _ _ _ (fun e => by cases e; exact hne9 hk))
        rw [show uns (L ++ [t]) = uns L ++ [.int .u64 t] by simp [uns]]
        exact this)
    have BB := hidden (B1.setCell (p := ⟨fb, 9, none⟩) hab (.slice (some ⟨g', 0, none⟩) (mn + 1) cap))
    clear c9 f9 hf1 hv1 hown hgrow hat hlt hgr hne9 fz1 B1
    go_wp2
    exact bodyPost_end (v := .tuple #[]) (by simp [results, Tryf.results19, go_sem]) rfl ⟨rfl, S1.out, BB.out⟩

theorem add_any {w : World} {B g fb : Nat} {gc : Array Value} {v : Value} {a b : Int} {K : Nat} (h : St w B g fb gc v a b K) (t : Int) (ht : 0 ≤ t) (hK : K ≤ 100000) :
    Calls Tryf.prog 19 #[.pointer (some ⟨fb, 5, none⟩), .int .u64 t] w fun e w' => e = .returned (.tuple #[]) ∧ St w' B g fb gc v a b (K + 1) ∧ Below B w w' := by
  by_cases h2 : t < 256
  · exact add_low h t ht h2
  · exact add_high h t (by omega) hK

/-- take, of the element that stands at 'at' -/
theorem take_st {w : World} {B g fb : Nat} {gc : Array Value} {v : Value} {a b : Int} {K : Nat} (h : St w B g fb gc v a b K) (en : Int) (ha : a < en) (ha0 : 0 ≤ a) (hen : en ≤ 1000000000) :
    Calls Tryf.prog 22 #[.pointer (some ⟨fb, 0, none⟩), .int .i64 a, .int .i64 en] w fun e w' => e = .returned (.tuple #[]) ∧ St w' B g fb gc v en a K ∧ Below B w w' ∧ ∀ k, k ≠ fb → w'.heap[k]? = w.heap[k]? := by
  have hne := h.fg
  have hab := h.above
  obtain ⟨l0, l1, l2, l3, m, mn, L, hf, hm, hmK⟩ := h.rest
  obtain ⟨c0, c1, c2, c3, c4, c5, c6, c7, c8, c9, c11, fz⟩ := FC_get _ _ _ _ _ _ _ _ _ _ _ hf
  refine (take_any fb a b en w c1 c2 c3 fz ha ha0 hen).mono ?_
  rintro e w' ⟨he, hw⟩
  have ht := own_type hm hf (by decide)
  rw [hw]
  have q1 := heap_setCell_same w fb 3 _ 51 (.int .i64 a) hf
  have q2 := heap_setCell_same _ fb 1 _ 51 (.int .i64 en) q1
  have q3 := heap_setCell_same _ fb 2 _ 51 (.int .i64 en) q2
  have hk : ∀ k, k ≠ fb → (((w.setCell ⟨fb, 3, none⟩ (.int .i64 a)).setCell ⟨fb, 1, none⟩ (.int .i64 en)).setCell ⟨fb, 2, none⟩ (.int .i64 en)).heap[k]? = w.heap[k]? := fun k hk => by
    rw [Below.heap_setCell _ _ _ _ hk, Below.heap_setCell _ _ _ _ hk, Below.heap_setCell _ _ _ _ hk]
  refine ⟨he, ⟨by simpa using h.low, hab, (hk g hne).trans h.val, l0, l1, l2, l3, m, mn, L, ?_, ?_, hmK⟩, (((Below.refl _ _).setCell (by exact hab) _).setCell (by exact hab) _).setCell (by exact hab) _, hk⟩
  · rw [q3]; rfl
  · exact own_of_block hm (fun k hkk => hk k (fun e => by subst e; exact ht hkk))
end Go.Proofs.Qxb6616613aFmt
