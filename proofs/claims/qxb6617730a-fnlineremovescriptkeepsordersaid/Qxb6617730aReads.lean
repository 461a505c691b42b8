/-
  readsAsModel: on a line that stands as it should she returns true.
-/
import Derived.Test.Qxb6617730aLeaf
import Derived.Deep.LoopGhost
import Derived.Deep.QuietTactic
import Derived.BigQuiet
import Derived.Outline
namespace Go.Proofs.Qxb6617730a
open Go.ChangeShapes Go.WideShapes Go.ChangeAt Go.RowKit
set_option linter.unusedVariables false

/-- the numbers that are still there, below place i -/
def wl (S : Nat → Int) (g : Nat → Bool) (i : Nat) : List Value := (al g i).map fun j => Value.int .u64 (S j)
theorem wl_here {S : Nat → Int} {g : Nat → Bool} {i : Nat} (h : g i = false) : wl S g (i + 1) = wl S g i ++ [.int .u64 (S i)] := by simp [wl, al_here h]
theorem wl_gone {S : Nat → Int} {g : Nat → Bool} {i : Nat} (h : g i = true) : wl S g (i + 1) = wl S g i := by simp [wl, al_gone h]
theorem wl_at {S : Nat → Int} {g : Nat → Bool} {n j : Nat} (hj : j < n) (h : g j = false) : (wl S g n)[(al g j).length]? = some (.int .u64 (S j)) := by
  simp [wl, (al_at hj h).1]
theorem len_here {g : Nat → Bool} {i : Nat} (h : g i = false) : (al g (i + 1)).length = (al g i).length + 1 := by simp [al_here h]

set_option maxRecDepth 100000 in
set_option maxHeartbeats 1600000 in
theorem reads_any {w : World} {L M n SB G : Nat} {S : Nat → Int} {g : Nat → Bool} {P Q : Nat → Option Nat} {F K : Option Nat} (h : Chain w L M n S g P Q F K) (hn : n ≤ 1024)
    (hS : w.rowIs SB 34 n (fun i => .int .u64 (S i))) (hG : w.rowIs G 4 n (fun i => .bool (g i))) :
    Calls Try.prog 13 #[.pointer (some ⟨L, 0, none⟩), .slice (some ⟨SB, 0, none⟩) n n, .slice (some ⟨G, 0, none⟩) n n] w fun e w' => e = .returned (.bool true) ∧ Below w.heap.size w w' := by
  obtain ⟨i0, hi, hz0, hz1, hz2⟩ := info_parts Try.info34
  have hall := al_len (g := g) n
  have hLs := h.ends.lt
  have hSs := hS.lt
  have hGs := hG.lt
  go_enter Try.func13, Try.ntmps13
  go_wp2_with (at_make; refine wpList_make_own _ rfl _ _ 22 rfl w.heap.size 34 i0 (.int .u64 0) 1 Try.underlying22 hi hz0 hz1 _ _ _ n rfl rfl (by omega) ?b2 ?b3 (Nat.le_refl _) ?_)
  case b2 => rw [hz2]; omega
  case b3 => unfold maxLen; omega
  intro w0 hown0 hgrow0
  go_wp2
  go_loopw [7, 8] (fun v i wr => ∃ t : Nat, t ≤ n ∧ i = .int .i64 t ∧ v = .slice (some ⟨w.heap.size, 0, none⟩) (al g t).length n ∧
      wr.ownsRow w.heap.size 34 1 (.slice (some ⟨w.heap.size, 0, none⟩) (al g t).length n) (al g t).length (wl S g t) ∧ Below w.heap.size w wr) (fun _ i _ => n - (intOf i).toNat)
  case atStart => exact ⟨0, Nat.zero_le _, rfl, rfl, hown0, (Below.refl _ _).grown hgrow0 (Nat.le_refl _) (fun k h => by cases h)⟩
  case round =>
    obtain ⟨t, ht, rfl, rfl, hown, hbel⟩ := hrel
    clear hown0 hgrow0
    have hlt := al_len (g := g) t
    by_cases htn : t < n
    · have cG : wr.cell? ⟨G, t, none⟩ = some (.bool (g t)) := (hbel.cell (by exact hGs)).trans (hG.cell htn)
      have cS : wr.cell? ⟨SB, t, none⟩ = some (.int .u64 (S t)) := (hbel.cell (by exact hSs)).trans (hS.cell htn)
      by_cases hg : g t = true
      · rw [hg] at cG
        have e1 := wl_gone (S := S) hg
        have e2 := al_gone hg
        have E : Hid (wl S g (t + 1) = wl S g t ∧ al g (t + 1) = al g t) := ⟨e1, e2⟩
        clear e1 e2
        go_wp2
        go_roundw
        case rel => exact ⟨t + 1, by omega, by go_num, by rw [E.out.2], by rw [E.out.1, E.out.2]; exact hown, hbel⟩
        case measure => simp [intOf]; omega
      · have hg' : g t = false := by simpa using hg
        rw [hg'] at cG
        have e1 := wl_here (S := S) hg'
        have e2 := len_here hg'
        have E : Hid (wl S g (t + 1) = wl S g t ++ [.int .u64 (S t)] ∧ (al g (t + 1)).length = (al g t).length + 1) := ⟨e1, e2⟩
        clear e1 e2
        go_wp2_with (at_builtin; refine wpList_append_fits _ rfl (.tmp 26) (.tmp 31) 22 rfl w.heap.size 34 i0 1 Try.underlying22 hi hz1 w.heap.size (al g t).length n _ rfl (hown.alloc _) ⟨wr.heap.size, 0, none⟩ 1 1 [.int .u64 (S t)] rfl rfl (by intro t u ht; match t, ht with | 0, ht => simp at ht; subst ht; simp [Addr.add]) (by intro u hu; simp at hu; subst hu; rfl) (by omega) ?_; intro w1 hown1 hgrow1)
        go_roundw
        case rel => exact ⟨t + 1, by omega, by go_num, by rw [E.out.2], by rw [E.out.1, E.out.2]; exact hown1, (hbel.alloc hbel.size _).grown hgrow1 (by simp; have := hbel.size; omega) (fun k hk => by cases hk; exact Nat.le_refl _)⟩
        case measure => simp [intOf]; omega
    · obtain rfl : n = t := by omega
      have cF : wr.cell? ⟨L, 0, none⟩ = some (.pointer (pa M F)) := (hbel.cell (by exact hLs)).trans (h.ends.cell (i := 0) (by omega))
      go_wp2_with (go_at_call 15; refine (front_any _ _ _ cF).mono ?_; rintro e w' ⟨rfl, hw⟩; obtain rfl := hw.symm)
      clear cF
      go_loopg [10, 11] n (fun r kk o wx => ∃ (i : Nat) (c : Option Nat), i ≤ n ∧ r = n - i ∧ kk = .int .i64 (al g i).length ∧ o = .pointer (pa M c) ∧ IsNxt g n i c ∧
        wx.ownsRow w.heap.size 34 1 (.slice (some ⟨w.heap.size, 0, none⟩) (al g n).length n) (al g n).length (wl S g n) ∧ Below w.heap.size w wx)
      case atStart => exact ⟨0, F, Nat.zero_le _, rfl, rfl, rfl, h.front, hown, hbel⟩
      case round =>
        obtain ⟨i, c, hin, hgk, rfl, rfl, hnx, hownx, hbelx⟩ := hrel
        clear hown hbel
        cases c with
        | none =>
          rw [pa_none]
          have e : al g i = al g n := (al_same hin hnx).symm
          rw [e]
          have cK : wr.cell? ⟨L, 1, none⟩ = some (.pointer (pa M K)) := (hbelx.cell (by exact hLs)).trans (h.ends.cell (i := 1) (by omega))
          clear e
          go_wp2_with (go_at_call 17; refine (back_any _ _ _ cK).mono ?_; rintro e w' ⟨rfl, hw⟩; obtain rfl := hw.symm)
          clear cK hnx hin hgk
          go_loopg [10, 11] n (fun r kk o wx => ∃ (i : Nat) (c : Option Nat), i ≤ n ∧ r = i ∧ kk = .int .i64 ((al g n).length - (al g i).length : Nat) ∧ o = .pointer (pa M c) ∧ IsPrv g i c ∧
            wx.ownsRow w.heap.size 34 1 (.slice (some ⟨w.heap.size, 0, none⟩) (al g n).length n) (al g n).length (wl S g n) ∧ Below w.heap.size w wx)
          case atStart => exact ⟨n, K, Nat.le_refl _, rfl, by simp, rfl, h.back, hownx, hbelx⟩
          case round =>
            obtain ⟨i, c, hin, hgk, rfl, rfl, hpv, hown, hbel⟩ := hrel
            clear hownx hbelx
            cases c with
            | none =>
              rw [pa_none]
              have e : al g i = [] := al_same (i := 0) (Nat.zero_le _) (fun k _ hk => hpv k hk)
              rw [e]
              have e2 : (al g n).length - ([] : List Nat).length = (al g n).length := by simp
              rw [e2]
              clear e e2
              go_wp2
              go_ret
              exact ⟨rfl, hbel⟩
            | some j =>
              rw [pa_some]
              obtain ⟨hji, hgj, hgo⟩ := hpv
              have hjn : j < n := by omega
              have e1 : al g i = al g (j + 1) := al_same (by omega) (fun k a b => hgo k (by omega) b)
              have e2 := len_here hgj
              have hlt := (al_at hjn hgj).2
              rw [e1, e2]
              have hk : ((al g n).length - ((al g j).length + 1) : Nat) < (al g n).length := by omega
              obtain ⟨q, hq⟩ : ∃ q : Nat, (al g n).length - ((al g j).length + 1) = q := ⟨_, rfl⟩
              rw [hq] at hk ⊢
              have HQ : Hid ((al g n).length - ((al g j).length + 1) = q) := hq
              have eix : ((al g n).length : Int) - 1 - (q : Int) = ((al g j).length : Int) := by omega
              clear e1 e2 hgo hq
              have hnd := h.node j hjn
              have hb := hnd.lt
              have cs := (hbel.cell (p := ⟨M + j, 0, none⟩) (by exact hb)).trans hnd.seq
              have cn := (hbel.cell (p := ⟨M + j, 16, none⟩) (by exact hb)).trans hnd.prev
              have cw := (hown.cellAt (al g j).length (by omega)).trans (wl_at (S := S) hjn hgj)
              go_wp2
              go_quiet ((go_at_call 16; exact Calls.quiet_of_same (seq_any _ _ _ cs)))
              go_wp2_with (go_at_call 11; refine (prev_any _ _ _ (by exact cn)).mono ?_; rintro e w' ⟨rfl, hw⟩; obtain rfl := hw.symm)
              go_roundg j
              case measure => omega
              case rel => exact ⟨j, P j, by omega, rfl, by have := HQ.out; go_num, rfl, h.prv j hjn hgj, hown, ⟨hbel.os, hbel.tape, hbel.output, hbel.size, hbel.block⟩⟩
        | some j =>
          rw [pa_some]
          obtain ⟨hij, hjn, hgj, hgo⟩ := hnx
          have e : al g i = al g j := (al_same hij hgo).symm
          rw [e]
          clear e hgo
          have hnd := h.node j hjn
          have hb := hnd.lt
          have cs := (hbelx.cell (p := ⟨M + j, 0, none⟩) (by exact hb)).trans hnd.seq
          have cn := (hbelx.cell (p := ⟨M + j, 17, none⟩) (by exact hb)).trans hnd.next
          have hlt := (al_at hjn hgj).2
          have cw := (hownx.cellAt (al g j).length (by omega)).trans (wl_at (S := S) hjn hgj)
          have hli : ((al g j).length : Int) < ((al g n).length : Int) := by omega
          go_wp2
          go_quiet ((go_at_call 16; exact Calls.quiet_of_same (seq_any _ _ _ cs)))
          go_wp2_with (go_at_call 12; refine (next_any _ _ _ (by exact cn)).mono ?_; rintro e w' ⟨rfl, hw⟩; obtain rfl := hw.symm)
          go_roundg (n - (j + 1))
          case measure => omega
          case rel => exact ⟨j + 1, Q j, by omega, rfl, by rw [len_here hgj]; go_num, rfl, h.nxt j hjn hgj, hownx, ⟨hbelx.os, hbelx.tape, hbelx.output, hbelx.size, hbelx.block⟩⟩
end Go.Proofs.Qxb6617730a
