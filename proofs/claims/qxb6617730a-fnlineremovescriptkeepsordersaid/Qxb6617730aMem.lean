/-
  THE LINE IN MEMORY: a node a block, the ends a block; what 'remove' makes of it.
-/
import Derived.Test.Qxb6617730aPlain
import Derived.Below
import Derived.Deep.OwnRows
import Derived.Deep.Draws
namespace Go.Proofs.Qxb6617730a
open Go.RowKit
set_option linter.unusedVariables false

/-- the address of place i's node -/
def pa (M : Nat) (o : Option Nat) : Option Addr := o.map fun i => ⟨M + i, 0, none⟩
theorem pa_none (M : Nat) : pa M none = none := rfl
theorem pa_some (M i : Nat) : pa M (some i) = some ⟨M + i, 0, none⟩ := rfl

/-- block b is a node that carries s, between p and q -/
def Node (w : World) (b : Nat) (s : Int) (p q : Option Addr) : Prop :=
  ∃ c : Array Value, w.heap[b]? = some (.cells c 49 (0, 0)) ∧ c[0]? = some (.int .u64 s) ∧ c[16]? = some (.pointer p) ∧ c[17]? = some (.pointer q)

namespace Node
variable {w : World} {b : Nat} {s : Int} {p q : Option Addr}
theorem seq (h : Node w b s p q) : w.cell? ⟨b, 0, none⟩ = some (.int .u64 s) := by
  obtain ⟨c, hb, h0, h1, h2⟩ := h
  simp [World.cell?, hb, h0]
theorem prev (h : Node w b s p q) : w.cell? ⟨b, 16, none⟩ = some (.pointer p) := by
  obtain ⟨c, hb, h0, h1, h2⟩ := h
  simp [World.cell?, hb, h1]
theorem next (h : Node w b s p q) : w.cell? ⟨b, 17, none⟩ = some (.pointer q) := by
  obtain ⟨c, hb, h0, h1, h2⟩ := h
  simp [World.cell?, hb, h2]
theorem free (h : Node w b s p q) (i : Nat) : w.frozen? ⟨b, i, none⟩ = false := by
  obtain ⟨c, hb, h0, h1, h2⟩ := h
  simp [World.frozen?, hb]
theorem lt (h : Node w b s p q) : b < w.heap.size := by
  obtain ⟨c, hb, _⟩ := h
  obtain ⟨hlt, _⟩ := Array.getElem?_eq_some_iff.1 hb
  exact hlt
theorem of_block {w' : World} (h : Node w b s p q) (e : w'.heap[b]? = w.heap[b]?) : Node w' b s p q := by
  obtain ⟨c, hb, r⟩ := h
  exact ⟨c, e.trans hb, r⟩
theorem other (h : Node w b s p q) {a : Addr} (ha : b ≠ a.block) (v : Value) : Node (w.setCell a v) b s p q := h.of_block (Below.heap_setCell _ _ _ _ ha)
theorem setPrev (h : Node w b s p q) (p' : Option Addr) : Node (w.setCell ⟨b, 16, none⟩ (.pointer p')) b s p' q := by
  obtain ⟨c, hb, h0, h1, h2⟩ := h
  have hlt : 17 < c.size := (Array.getElem?_eq_some_iff.1 h2).1
  refine ⟨c.setIfInBounds 16 (.pointer p'), ?_, ?_, ?_, ?_⟩
  · simp [World.setCell, Array.getElem?_modify, hb]
  · rw [Array.getElem?_setIfInBounds, if_neg (by omega)]; exact h0
  · rw [Array.getElem?_setIfInBounds, if_pos rfl, if_pos (by omega)]
  · rw [Array.getElem?_setIfInBounds, if_neg (by omega)]; exact h2
theorem setNext (h : Node w b s p q) (q' : Option Addr) : Node (w.setCell ⟨b, 17, none⟩ (.pointer q')) b s p q' := by
  obtain ⟨c, hb, h0, h1, h2⟩ := h
  have hlt : 17 < c.size := (Array.getElem?_eq_some_iff.1 h2).1
  refine ⟨c.setIfInBounds 17 (.pointer q'), ?_, ?_, ?_, ?_⟩
  · simp [World.setCell, Array.getElem?_modify, hb]
  · rw [Array.getElem?_setIfInBounds, if_neg (by omega)]; exact h0
  · rw [Array.getElem?_setIfInBounds, if_neg (by omega)]; exact h1
  · rw [Array.getElem?_setIfInBounds, if_pos rfl, if_pos (by omega)]
end Node

/-- what the two cells of the ends hold -/
def endsF (M : Nat) (F K : Option Nat) : Nat → Value := fun i => if i = 0 then .pointer (pa M F) else .pointer (pa M K)

/-- THE LINE, in memory: the ends at block L, place i's node at block M + i; P, Q: each place's neighbours; F, K: the first and the last. -/
structure Chain (w : World) (L M n : Nat) (S : Nat → Int) (g : Nat → Bool) (P Q : Nat → Option Nat) (F K : Option Nat) : Prop where
  apart : L < M
  ends : w.rowIs L 31 2 (endsF M F K)
  front : IsNxt g n 0 F
  back : IsPrv g n K
  node : ∀ i, i < n → Node w (M + i) (S i) (pa M (P i)) (pa M (Q i))
  prv : ∀ i, i < n → g i = false → IsPrv g i (P i)
  nxt : ∀ i, i < n → g i = false → IsNxt g n (i + 1) (Q i)

theorem Chain.carry {w w' : World} {L M n : Nat} {S : Nat → Int} {g : Nat → Bool} {P Q : Nat → Option Nat} {F K : Option Nat} (h : Chain w L M n S g P Q F K)
    (hb : ∀ b, b < w.heap.size → w'.heap[b]? = w.heap[b]?) : Chain w' L M n S g P Q F K :=
  ⟨h.apart, h.ends.of_block (hb _ h.ends.lt), h.front, h.back, fun i hi => (h.node i hi).of_block (hb _ (h.node i hi).lt), h.prv, h.nxt⟩

theorem Chain.block {w w' : World} {L M n : Nat} {S : Nat → Int} {g : Nat → Bool} {P Q : Nat → Option Nat} {F K : Option Nat} (h : Chain w L M n S g P Q F K)
    (hL : w'.heap[L]? = w.heap[L]?) (hb : ∀ i, i < n → w'.heap[M + i]? = w.heap[M + i]?) : Chain w' L M n S g P Q F K :=
  ⟨h.apart, h.ends.of_block hL, h.front, h.back, fun i hi => (h.node i hi).of_block (hb i hi), h.prv, h.nxt⟩

/-- the world behind the removal of place p, whose neighbours are P, Q -/
def remW (w : World) (L M p : Nat) (P Q : Option Nat) : World :=
  let w1 := match P with
    | some a => w.setCell ⟨M + a, 17, none⟩ (.pointer (pa M Q))
    | none => w.setCell ⟨L, 0, none⟩ (.pointer (pa M Q))
  let w2 := match Q with
    | some b => w1.setCell ⟨M + b, 16, none⟩ (.pointer (pa M P))
    | none => w1.setCell ⟨L, 1, none⟩ (.pointer (pa M P))
  (w2.setCell ⟨M + p, 16, none⟩ (.pointer none)).setCell ⟨M + p, 17, none⟩ (.pointer none)

def remP (p : Nat) (P Q : Nat → Option Nat) : Nat → Option Nat := fun i => if i = p then none else if Q p = some i then P p else P i
def remQ (p : Nat) (P Q : Nat → Option Nat) : Nat → Option Nat := fun i => if i = p then none else if P p = some i then Q p else Q i
def remF (p : Nat) (P Q : Nat → Option Nat) (F : Option Nat) : Option Nat := if P p = none then Q p else F
def remK (p : Nat) (P Q : Nat → Option Nat) (K : Option Nat) : Option Nat := if Q p = none then P p else K

theorem remW_size (w : World) (L M p : Nat) (P Q : Option Nat) : (remW w L M p P Q).heap.size = w.heap.size := by
  unfold remW; cases P <;> cases Q <;> simp [World.size_setCell]

theorem keep4 (w : World) (a1 a2 a3 a4 : Addr) (v1 v2 v3 v4 : Value) (b : Nat) (h1 : b ≠ a1.block) (h2 : b ≠ a2.block) (h3 : b ≠ a3.block) (h4 : b ≠ a4.block) :
    ((((w.setCell a1 v1).setCell a2 v2).setCell a3 v3).setCell a4 v4).heap[b]? = w.heap[b]? :=
  (Below.heap_setCell _ _ _ _ h4).trans ((Below.heap_setCell _ _ _ _ h3).trans ((Below.heap_setCell _ _ _ _ h2).trans (Below.heap_setCell _ _ _ _ h1)))

/-- blocks that are neither the ends nor a node stand -/
theorem remW_block (w : World) (L M n p : Nat) (P Q : Option Nat) (hp : p < n) (hP : ∀ a, P = some a → a < n) (hQ : ∀ a, Q = some a → a < n) (b : Nat) (hL : b ≠ L) (hM : b < M ∨ M + n ≤ b) :
    (remW w L M p P Q).heap[b]? = w.heap[b]? := by
  have hn : ∀ a, a < n → b ≠ M + a := fun a ha => by omega
  cases P with
  | none =>
    cases Q with
    | none => exact keep4 w ⟨L, 0, none⟩ ⟨L, 1, none⟩ ⟨M + p, 16, none⟩ ⟨M + p, 17, none⟩ _ _ _ _ b hL hL (hn p hp) (hn p hp)
    | some c => exact keep4 w ⟨L, 0, none⟩ ⟨M + c, 16, none⟩ ⟨M + p, 16, none⟩ ⟨M + p, 17, none⟩ _ _ _ _ b hL (hn c (hQ c rfl)) (hn p hp) (hn p hp)
  | some a =>
    cases Q with
    | none => exact keep4 w ⟨M + a, 17, none⟩ ⟨L, 1, none⟩ ⟨M + p, 16, none⟩ ⟨M + p, 17, none⟩ _ _ _ _ b (hn a (hP a rfl)) hL (hn p hp) (hn p hp)
    | some c => exact keep4 w ⟨M + a, 17, none⟩ ⟨M + c, 16, none⟩ ⟨M + p, 16, none⟩ ⟨M + p, 17, none⟩ _ _ _ _ b (hn a (hP a rfl)) (hn c (hQ c rfl)) (hn p hp) (hn p hp)

theorem out1 (w : World) (a : Addr) (v : Value) : (w.setCell a v).os = w.os ∧ (w.setCell a v).tape = w.tape ∧ (w.setCell a v).output = w.output := ⟨rfl, rfl, rfl⟩
theorem out4 (w : World) (a1 a2 a3 a4 : Addr) (v1 v2 v3 v4 : Value) :
    ((((w.setCell a1 v1).setCell a2 v2).setCell a3 v3).setCell a4 v4).os = w.os ∧ ((((w.setCell a1 v1).setCell a2 v2).setCell a3 v3).setCell a4 v4).tape = w.tape ∧
      ((((w.setCell a1 v1).setCell a2 v2).setCell a3 v3).setCell a4 v4).output = w.output := by
  refine ⟨?_, ?_, ?_⟩
  · rw [(out1 _ _ _).1, (out1 _ _ _).1, (out1 _ _ _).1, (out1 _ _ _).1]
  · rw [(out1 _ _ _).2.1, (out1 _ _ _).2.1, (out1 _ _ _).2.1, (out1 _ _ _).2.1]
  · rw [(out1 _ _ _).2.2, (out1 _ _ _).2.2, (out1 _ _ _).2.2, (out1 _ _ _).2.2]

theorem remW_os (w : World) (L M p : Nat) (P Q : Option Nat) : (remW w L M p P Q).os = w.os ∧ (remW w L M p P Q).tape = w.tape ∧ (remW w L M p P Q).output = w.output := by
  cases P with
  | none =>
    cases Q with
    | none => exact out4 w ⟨L, 0, none⟩ ⟨L, 1, none⟩ ⟨M + p, 16, none⟩ ⟨M + p, 17, none⟩ _ _ _ _
    | some c => exact out4 w ⟨L, 0, none⟩ ⟨M + c, 16, none⟩ ⟨M + p, 16, none⟩ ⟨M + p, 17, none⟩ _ _ _ _
  | some a =>
    cases Q with
    | none => exact out4 w ⟨M + a, 17, none⟩ ⟨L, 1, none⟩ ⟨M + p, 16, none⟩ ⟨M + p, 17, none⟩ _ _ _ _
    | some c => exact out4 w ⟨M + a, 17, none⟩ ⟨M + c, 16, none⟩ ⟨M + p, 16, none⟩ ⟨M + p, 17, none⟩ _ _ _ _

theorem IsPrv.lt {g : Nat → Bool} {i a : Nat} (h : IsPrv g i (some a)) : a < i := h.1
theorem IsNxt.lt {g : Nat → Bool} {n i a : Nat} (h : IsNxt g n i (some a)) : i ≤ a ∧ a < n := ⟨h.1, h.2.1⟩

/-- a node behind the removal -/
theorem remW_node {w : World} {L M n p : Nat} {S : Nat → Int} {P Q : Nat → Option Nat} (hLM : L < M) (hp : p < n)
    (hP : ∀ a, P p = some a → a < p) (hQ : ∀ a, Q p = some a → p < a ∧ a < n)
    (hn : ∀ i, i < n → Node w (M + i) (S i) (pa M (P i)) (pa M (Q i))) :
    ∀ i, i < n → Node (remW w L M p (P p) (Q p)) (M + i) (S i) (pa M (remP p P Q i)) (pa M (remQ p P Q i)) := by
  intro i hi
  have h := hn i hi
  unfold remW remP remQ
  by_cases e : i = p
  · subst e
    rw [if_pos rfl, if_pos rfl]
    have h1 : Node (match P i with
        | some a => w.setCell ⟨M + a, 17, none⟩ (.pointer (pa M (Q i)))
        | none => w.setCell ⟨L, 0, none⟩ (.pointer (pa M (Q i)))) (M + i) (S i) (pa M (P i)) (pa M (Q i)) := by
      split
      · next a ha => have := hP a ha; exact h.other (by dsimp only; omega) _
      · exact h.other (by dsimp only; omega) _
    revert h1
    generalize (match P i with
        | some a => w.setCell ⟨M + a, 17, none⟩ (.pointer (pa M (Q i)))
        | none => w.setCell ⟨L, 0, none⟩ (.pointer (pa M (Q i)))) = w1
    intro h1
    have h2 : Node (match Q i with
        | some b => w1.setCell ⟨M + b, 16, none⟩ (.pointer (pa M (P i)))
        | none => w1.setCell ⟨L, 1, none⟩ (.pointer (pa M (P i)))) (M + i) (S i) (pa M (P i)) (pa M (Q i)) := by
      split
      · next a ha => have := hQ a ha; exact h1.other (by dsimp only; omega) _
      · exact h1.other (by dsimp only; omega) _
    exact (h2.setPrev none).setNext none
  · rw [if_neg e, if_neg e]
    refine Node.other (Node.other ?_ (by dsimp only; omega) _) (by dsimp only; omega) _
    have h1 : Node (match P p with
        | some a => w.setCell ⟨M + a, 17, none⟩ (.pointer (pa M (Q p)))
        | none => w.setCell ⟨L, 0, none⟩ (.pointer (pa M (Q p)))) (M + i) (S i) (pa M (P i)) (pa M (if P p = some i then Q p else Q i)) := by
      cases hPp : P p with
      | none => rw [if_neg (by simp)]; exact h.other (by dsimp only; omega) _
      | some a =>
        by_cases ea : a = i
        · subst ea; rw [if_pos rfl]; exact h.setNext _
        · rw [if_neg (by simpa using ea)]; exact h.other (by dsimp only; omega) _
    revert h1
    generalize (match P p with
        | some a => w.setCell ⟨M + a, 17, none⟩ (.pointer (pa M (Q p)))
        | none => w.setCell ⟨L, 0, none⟩ (.pointer (pa M (Q p)))) = w1
    intro h1
    cases hQp : Q p with
    | none => rw [hQp] at h1; rw [if_neg (by simp)]; exact h1.other (by dsimp only; omega) _
    | some a =>
      rw [hQp] at h1
      by_cases ea : a = i
      · subst ea; rw [if_pos rfl]; exact h1.setPrev _
      · rw [if_neg (by simpa using ea)]; exact h1.other (by dsimp only; omega) _

theorem remW_ends {w : World} {L M n p : Nat} {P Q : Nat → Option Nat} {F K : Option Nat} (hLM : L < M) (h : w.rowIs L 31 2 (endsF M F K)) :
    (remW w L M p (P p) (Q p)).rowIs L 31 2 (endsF M (remF p P Q F) (remK p P Q K)) := by
  unfold remW remF remK
  refine World.rowIs.setOther (World.rowIs.setOther ?_ (by dsimp only; omega) _) (by dsimp only; omega) _
  have h1 : (match P p with
      | some a => w.setCell ⟨M + a, 17, none⟩ (.pointer (pa M (Q p)))
      | none => w.setCell ⟨L, 0, none⟩ (.pointer (pa M (Q p)))).rowIs L 31 2 (endsF M (if P p = none then Q p else F) K) := by
    cases hPp : P p with
    | none =>
      rw [if_pos rfl]
      refine (h.set 0 _).congr fun i hi => ?_
      unfold endsF
      by_cases e : i = 0 <;> simp [e]
    | some a => rw [if_neg (Option.some_ne_none a)]; exact h.setOther (show L ≠ M + a by omega) _
  revert h1
  generalize (match P p with
      | some a => w.setCell ⟨M + a, 17, none⟩ (.pointer (pa M (Q p)))
      | none => w.setCell ⟨L, 0, none⟩ (.pointer (pa M (Q p)))) = w1
  intro h1
  cases hQp : Q p with
  | none =>
    rw [hQp] at h1
    rw [if_pos rfl]
    refine (h1.set 1 _).congr fun i hi => ?_
    unfold endsF
    by_cases e : i = 1
    · subst e; simp
    · have : i = 0 := by omega
      subst this; simp
  | some a => rw [hQp] at h1; rw [if_neg (Option.some_ne_none a)]; exact h1.setOther (show L ≠ M + a by omega) _

/-- THE LINE BEHIND THE REMOVAL of a place that is not gone -/
theorem Chain.rem {w : World} {L M n p : Nat} {S : Nat → Int} {g : Nat → Bool} {P Q : Nat → Option Nat} {F K : Option Nat} (h : Chain w L M n S g P Q F K) (hp : p < n) (hg : g p = false) :
    Chain (remW w L M p (P p) (Q p)) L M n S (off g p) (remP p P Q) (remQ p P Q) (remF p P Q F) (remK p P Q K) := by
  have hP := h.prv p hp hg
  have hQ := h.nxt p hp hg
  refine ⟨h.apart, remW_ends (n := n) h.apart h.ends, ?_, ?_, remW_node h.apart hp (fun a ha => by rw [ha] at hP; exact hP.lt) (fun a ha => by rw [ha] at hQ; have := hQ.lt; omega) h.node, ?_, ?_⟩
  · have := nxt_off hQ h.front
    unfold remF
    by_cases e : P p = none
    · rw [if_pos e]; rwa [if_pos ((front_iff hp hg h.front hP).2 e)] at this
    · rw [if_neg e]; rwa [if_neg (fun x => e ((front_iff hp hg h.front hP).1 x))] at this
  · have := prv_off hP h.back
    unfold remK
    by_cases e : Q p = none
    · rw [if_pos e]; rwa [if_pos ((back_iff hp hg h.back hQ).2 e)] at this
    · rw [if_neg e]; rwa [if_neg (fun x => e ((back_iff hp hg h.back hQ).1 x))] at this
  · intro i hi hgi
    have hip : i ≠ p := fun e => by rw [e, off_same] at hgi; cases hgi
    rw [off_other hip] at hgi
    have hi' := h.prv i hi hgi
    have := prv_off hP hi'
    unfold remP
    rw [if_neg hip]
    by_cases e : Q p = some i
    · rw [if_pos e]; rwa [if_pos ((prv_iff_nxt hg hgi hi hi' hQ).2 e)] at this
    · rw [if_neg e]; rwa [if_neg (fun x => e ((prv_iff_nxt hg hgi hi hi' hQ).1 x))] at this
  · intro i hi hgi
    have hip : i ≠ p := fun e => by rw [e, off_same] at hgi; cases hgi
    rw [off_other hip] at hgi
    have hi' := h.nxt i hi hgi
    have := nxt_off hQ hi'
    unfold remQ
    rw [if_neg hip]
    by_cases e : P p = some i
    · rw [if_pos e]; rwa [if_pos ((prv_iff_nxt hgi hg hp hP hi').1 e)] at this
    · rw [if_neg e]; rwa [if_neg (fun x => e ((prv_iff_nxt hgi hg hp hP hi').2 x))] at this

theorem remP_self (p : Nat) (P Q : Nat → Option Nat) : remP p P Q p = none := by simp [remP]
theorem remQ_self (p : Nat) (P Q : Nat → Option Nat) : remQ p P Q p = none := by simp [remQ]

/-- the line at its making: nothing gone -/
def prv0 (i : Nat) : Option Nat := if i = 0 then none else some (i - 1)
def nxt0 (n i : Nat) : Option Nat := if i + 1 < n then some (i + 1) else none
theorem isPrv0 (i : Nat) : IsPrv (fun _ => false) i (prv0 i) := by
  unfold prv0
  split
  · next h => subst h; exact fun k hk => absurd hk (Nat.not_lt_zero _)
  · exact ⟨by omega, rfl, fun k a b => by omega⟩
theorem isNxt0 (n i : Nat) : IsNxt (fun _ => false) n (i + 1) (nxt0 n i) := by
  unfold nxt0
  split
  · exact ⟨by omega, by omega, rfl, fun k a b => by omega⟩
  · exact fun k a b => by omega

end Go.Proofs.Qxb6617730a
