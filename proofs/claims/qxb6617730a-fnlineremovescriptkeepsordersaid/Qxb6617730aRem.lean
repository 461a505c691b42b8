import Derived.Test.Qxb6617730aRows
import Derived.Test.Qxb6617730aMem
import Derived.WalkKit
import Derived.ProofKit
import Derived.Below
import Derived.RegionTactic
import Derived.BigRegion
import Derived.ChangeAlike
import Derived.Deep.OwnRows
import Derived.Deep.Draws
namespace Go.Proofs.Qxb6617730a
open Go.ChangeShapes Go.WideShapes Go.ChangeAt Go.RowKit
set_option linter.unusedVariables false

set_option maxHeartbeats 400000 in
theorem rem_ss (L o p q : Nat) (w : World) (hop : o ≠ p) (hoq : o ≠ q) (hpq : p ≠ q)
   (c1 : w.cell? ⟨o, 16, none⟩ = some (.pointer (some ⟨p, 0, none⟩))) (c2 : w.cell? ⟨o, 17, none⟩ = some (.pointer (some ⟨q, 0, none⟩)))
   (v1 v2 : Value) (k1 : w.cell? ⟨p, 17, none⟩ = some v1) (k2 : w.cell? ⟨q, 16, none⟩ = some v2)
   (f1 : w.frozen? ⟨o, 16, none⟩ = false) (f2 : w.frozen? ⟨o, 17, none⟩ = false) (f3 : w.frozen? ⟨p, 17, none⟩ = false) (f4 : w.frozen? ⟨q, 16, none⟩ = false) :
    Calls Try.prog 14 #[.pointer (some ⟨L, 0, none⟩), .pointer (some ⟨o, 0, none⟩)] w fun e w' => e = .returned (.tuple #[]) ∧
      ∃ k, w' = ((((w.setCell ⟨p, 17, none⟩ (.pointer (some ⟨q, 0, none⟩))).setCell ⟨q, 16, none⟩ (.pointer (some ⟨p, 0, none⟩))).setCell ⟨o, 16, none⟩ (.pointer none)).setCell ⟨o, 17, none⟩ (.pointer none)).drewN k := by
  go_enter Try.func14, Try.ntmps14
  go_wp2
  go_region
  all_goals go_wp2
  all_goals go_region
  all_goals go_wp2
  all_goals (go_end0; exact ⟨rfl, 2, rfl⟩)

set_option maxHeartbeats 400000 in
theorem rem_sn (L o p : Nat) (w : World) (hop : o ≠ p) (hoL : o ≠ L) (hpL : p ≠ L)
   (c1 : w.cell? ⟨o, 16, none⟩ = some (.pointer (some ⟨p, 0, none⟩))) (c2 : w.cell? ⟨o, 17, none⟩ = some (.pointer none))
   (v1 v2 : Value) (k1 : w.cell? ⟨p, 17, none⟩ = some v1) (k2 : w.cell? ⟨L, 1, none⟩ = some v2)
   (f1 : w.frozen? ⟨o, 16, none⟩ = false) (f2 : w.frozen? ⟨o, 17, none⟩ = false) (f3 : w.frozen? ⟨p, 17, none⟩ = false) (f4 : w.frozen? ⟨L, 1, none⟩ = false) :
    Calls Try.prog 14 #[.pointer (some ⟨L, 0, none⟩), .pointer (some ⟨o, 0, none⟩)] w fun e w' => e = .returned (.tuple #[]) ∧
      ∃ k, w' = ((((w.setCell ⟨p, 17, none⟩ (.pointer none)).setCell ⟨L, 1, none⟩ (.pointer (some ⟨p, 0, none⟩))).setCell ⟨o, 16, none⟩ (.pointer none)).setCell ⟨o, 17, none⟩ (.pointer none)).drewN k := by
  go_enter Try.func14, Try.ntmps14
  go_wp2
  go_region
  all_goals go_wp2
  all_goals (go_end0; exact ⟨rfl, 1, rfl⟩)

set_option maxHeartbeats 400000 in
theorem rem_ns (L o q : Nat) (w : World) (hoq : o ≠ q) (hoL : o ≠ L) (hqL : q ≠ L)
   (c1 : w.cell? ⟨o, 16, none⟩ = some (.pointer none)) (c2 : w.cell? ⟨o, 17, none⟩ = some (.pointer (some ⟨q, 0, none⟩)))
   (v1 v2 : Value) (k1 : w.cell? ⟨L, 0, none⟩ = some v1) (k2 : w.cell? ⟨q, 16, none⟩ = some v2)
   (f1 : w.frozen? ⟨o, 16, none⟩ = false) (f2 : w.frozen? ⟨o, 17, none⟩ = false) (f3 : w.frozen? ⟨L, 0, none⟩ = false) (f4 : w.frozen? ⟨q, 16, none⟩ = false) :
    Calls Try.prog 14 #[.pointer (some ⟨L, 0, none⟩), .pointer (some ⟨o, 0, none⟩)] w fun e w' => e = .returned (.tuple #[]) ∧
      ∃ k, w' = ((((w.setCell ⟨L, 0, none⟩ (.pointer (some ⟨q, 0, none⟩))).setCell ⟨q, 16, none⟩ (.pointer none)).setCell ⟨o, 16, none⟩ (.pointer none)).setCell ⟨o, 17, none⟩ (.pointer none)).drewN k := by
  go_enter Try.func14, Try.ntmps14
  go_wp2
  go_region
  all_goals go_wp2
  all_goals (go_end0; exact ⟨rfl, 1, rfl⟩)

set_option maxHeartbeats 400000 in
theorem rem_nn (L o : Nat) (w : World) (hoL : o ≠ L)
   (c1 : w.cell? ⟨o, 16, none⟩ = some (.pointer none)) (c2 : w.cell? ⟨o, 17, none⟩ = some (.pointer none))
   (v1 v2 : Value) (k1 : w.cell? ⟨L, 0, none⟩ = some v1) (k2 : w.cell? ⟨L, 1, none⟩ = some v2)
   (f1 : w.frozen? ⟨o, 16, none⟩ = false) (f2 : w.frozen? ⟨o, 17, none⟩ = false) (f3 : w.frozen? ⟨L, 0, none⟩ = false) (f4 : w.frozen? ⟨L, 1, none⟩ = false) :
    Calls Try.prog 14 #[.pointer (some ⟨L, 0, none⟩), .pointer (some ⟨o, 0, none⟩)] w fun e w' => e = .returned (.tuple #[]) ∧
      ∃ k, w' = ((((w.setCell ⟨L, 0, none⟩ (.pointer none)).setCell ⟨L, 1, none⟩ (.pointer none)).setCell ⟨o, 16, none⟩ (.pointer none)).setCell ⟨o, 17, none⟩ (.pointer none)).drewN k := by
  go_enter Try.func14, Try.ntmps14
  go_wp2
  all_goals (go_end0; exact ⟨rfl, 0, rfl⟩)

/-- (*line).remove at a place that is not gone -/
theorem rem_any {w : World} {L M n p : Nat} {S : Nat → Int} {g : Nat → Bool} {P Q : Nat → Option Nat} {F K : Option Nat} (h : Chain w L M n S g P Q F K) (hp : p < n) (hg : g p = false) :
    Calls Try.prog 14 #[.pointer (some ⟨L, 0, none⟩), .pointer (some ⟨M + p, 0, none⟩)] w fun e w' => e = .returned (.tuple #[]) ∧ ∃ k, w' = (remW w L M p (P p) (Q p)).drewN k := by
  have hP := h.prv p hp hg
  have hQ := h.nxt p hp hg
  have hLM := h.apart
  have hn := h.node p hp
  have l0 := h.ends.cell (i := 0) (by omega)
  have l1 := h.ends.cell (i := 1) (by omega)
  cases hPp : P p with
  | none =>
    rw [hPp] at hn
    cases hQp : Q p with
    | none =>
      rw [hQp] at hn
      exact rem_nn L (M + p) w (by omega) hn.prev hn.next _ _ l0 l1 (hn.free _) (hn.free _) (h.ends.frozen _) (h.ends.frozen _)
    | some b =>
      rw [hQp] at hn hQ
      have := hQ.lt
      have hb := h.node b (by omega)
      exact rem_ns L (M + p) (M + b) w (by omega) (by omega) (by omega) hn.prev hn.next _ _ l0 hb.prev (hn.free _) (hn.free _) (h.ends.frozen _) (hb.free _)
  | some a =>
    rw [hPp] at hn hP
    have := hP.lt
    have ha := h.node a (by omega)
    cases hQp : Q p with
    | none =>
      rw [hQp] at hn
      exact rem_sn L (M + p) (M + a) w (by omega) (by omega) (by omega) hn.prev hn.next _ _ ha.next l1 (hn.free _) (hn.free _) (ha.free _) (h.ends.frozen _)
    | some b =>
      rw [hQp] at hn hQ
      have := hQ.lt
      have hb := h.node b (by omega)
      exact rem_ss L (M + p) (M + a) (M + b) w (by omega) (by omega) (by omega) hn.prev hn.next _ _ ha.next hb.prev (hn.free _) (hn.free _) (ha.free _) (hb.free _)

set_option maxHeartbeats 400000 in
theorem zzremove_any {w : World} {L M n p : Nat} {S : Nat → Int} {g : Nat → Bool} {P Q : Nat → Option Nat} {F K : Option Nat} (h : Chain w L M n S g P Q F K) (hp : p < n) (hg : g p = false) :
    Calls Try.prog 10 #[.pointer (some ⟨L, 0, none⟩), .pointer (some ⟨M + p, 0, none⟩)] w fun e w' => e = .returned (.tuple #[]) ∧ ∃ k, w' = (remW w L M p (P p) (Q p)).drewN k := by
  have hr := rem_any h hp hg
  have H : Hid (Calls Try.prog 14 #[.pointer (some ⟨L, 0, none⟩), .pointer (some ⟨M + p, 0, none⟩)] w fun e w' => e = .returned (.tuple #[]) ∧ ∃ k, w' = (remW w L M p (P p) (Q p)).drewN k) := hr
  clear hr
  go_enter Try.func10, Try.ntmps10
  go_wp2_with (go_at_call 14; refine H.out.mono ?_; rintro e w' ⟨rfl, hk⟩)
  go_end0
  exact ⟨rfl, by assumption⟩

end Go.Proofs.Qxb6617730a
