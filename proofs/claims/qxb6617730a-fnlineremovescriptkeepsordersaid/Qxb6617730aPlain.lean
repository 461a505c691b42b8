/-
  THE PLAIN LAWS: no Go in sight. A line of n places, some gone ('g').
-/
import Derived.WalkKit
namespace Go.Proofs.Qxb6617730a

/-- o is the greatest place below i that is not gone. -/
def IsPrv (g : Nat → Bool) (i : Nat) : Option Nat → Prop
  | none => ∀ k, k < i → g k = true
  | some j => j < i ∧ g j = false ∧ ∀ k, j < k → k < i → g k = true

/-- o is the least place from i on, below n, that is not gone. -/
def IsNxt (g : Nat → Bool) (n i : Nat) : Option Nat → Prop
  | none => ∀ k, i ≤ k → k < n → g k = true
  | some j => i ≤ j ∧ j < n ∧ g j = false ∧ ∀ k, i ≤ k → k < j → g k = true

/-- p is gone too. -/
def off (g : Nat → Bool) (p : Nat) : Nat → Bool := fun i => if i = p then true else g i

theorem off_same (g : Nat → Bool) (p : Nat) : off g p p = true := by simp [off]
theorem off_other {g : Nat → Bool} {p i : Nat} (h : i ≠ p) : off g p i = g i := by simp [off, h]
theorem off_gone {g : Nat → Bool} {p i : Nat} (h : g i = true) : off g p i = true := by unfold off; split <;> simp [h]

/-- what a place's left neighbour becomes when p is taken out -/
theorem prv_off {g : Nat → Bool} {p i : Nat} {P o : Option Nat} (hp : IsPrv g p P) (hi : IsPrv g i o) : IsPrv (off g p) i (if o = some p then P else o) := by
  by_cases e : o = some p
  · subst e
    rw [if_pos rfl]
    obtain ⟨h1, h2, h3⟩ := hi
    cases P with
    | none =>
      intro k hk
      by_cases e : k = p
      · subst e; exact off_same _ _
      · by_cases hlt : k < p
        · exact off_gone (hp k hlt)
        · exact off_gone (h3 k (by omega) hk)
    | some P =>
      obtain ⟨a1, a2, a3⟩ := hp
      refine ⟨by omega, by rw [off_other (by omega)]; exact a2, fun k hk hk2 => ?_⟩
      by_cases e : k = p
      · subst e; exact off_same _ _
      · by_cases hlt : k < p
        · exact off_gone (a3 k hk hlt)
        · exact off_gone (h3 k (by omega) hk2)
  · rw [if_neg e]
    cases o with
    | none => exact fun k hk => off_gone (hi k hk)
    | some j =>
      obtain ⟨h1, h2, h3⟩ := hi
      exact ⟨h1, by rw [off_other (fun h => e (by rw [h]))]; exact h2, fun k a b => off_gone (h3 k a b)⟩

/-- what a place's right neighbour becomes -/
theorem nxt_off {g : Nat → Bool} {n p i : Nat} {Q o : Option Nat} (hp : IsNxt g n (p + 1) Q) (hi : IsNxt g n i o) : IsNxt (off g p) n i (if o = some p then Q else o) := by
  by_cases e : o = some p
  · subst e
    rw [if_pos rfl]
    obtain ⟨h1, h2, h3, h4⟩ := hi
    cases Q with
    | none =>
      intro k hk hk2
      by_cases e : k = p
      · subst e; exact off_same _ _
      · by_cases hlt : k < p
        · exact off_gone (h4 k hk hlt)
        · exact off_gone (hp k (by omega) hk2)
    | some Q =>
      obtain ⟨a1, a2, a3, a4⟩ := hp
      refine ⟨by omega, a2, by rw [off_other (by omega)]; exact a3, fun k hk hk2 => ?_⟩
      by_cases e : k = p
      · subst e; exact off_same _ _
      · by_cases hlt : k < p
        · exact off_gone (h4 k hk hlt)
        · exact off_gone (a4 k (by omega) hk2)
  · rw [if_neg e]
    cases o with
    | none => exact fun k hk hk2 => off_gone (hi k hk hk2)
    | some j =>
      obtain ⟨h1, h2, h3, h4⟩ := hi
      exact ⟨h1, h2, by rw [off_other (fun h => e (by rw [h]))]; exact h3, fun k a b => off_gone (h4 k a b)⟩

theorem prv_uniq {g : Nat → Bool} {i : Nat} {o o' : Option Nat} (h : IsPrv g i o) (h' : IsPrv g i o') : o = o' := by
  cases o with
  | none =>
    cases o' with
    | none => rfl
    | some j => have := h j h'.1; rw [h'.2.1] at this; cases this
  | some j =>
    cases o' with
    | none => have := h' j h.1; rw [h.2.1] at this; cases this
    | some j' =>
      obtain ⟨a1, a2, a3⟩ := h
      obtain ⟨b1, b2, b3⟩ := h'
      rcases Nat.lt_trichotomy j j' with c | c | c
      · have := a3 j' c b1; rw [b2] at this; cases this
      · rw [c]
      · have := b3 j c a1; rw [a2] at this; cases this

theorem nxt_uniq {g : Nat → Bool} {n i : Nat} {o o' : Option Nat} (h : IsNxt g n i o) (h' : IsNxt g n i o') : o = o' := by
  cases o with
  | none =>
    cases o' with
    | none => rfl
    | some j => have := h j h'.1 h'.2.1; rw [h'.2.2.1] at this; cases this
  | some j =>
    cases o' with
    | none => have := h' j h.1 h.2.1; rw [h.2.2.1] at this; cases this
    | some j' =>
      obtain ⟨a1, a2, a3, a4⟩ := h
      obtain ⟨b1, b2, b3, b4⟩ := h'
      rcases Nat.lt_trichotomy j j' with c | c | c
      · have := b4 j a1 c; rw [a3] at this; cases this
      · rw [c]
      · have := a4 j' b1 c; rw [b3] at this; cases this

/-- i's left neighbour is p just where p's right neighbour is i -/
theorem prv_iff_nxt {g : Nat → Bool} {n p i : Nat} {o Q : Option Nat} (hpg : g p = false) (hig : g i = false) (hin : i < n) (hi : IsPrv g i o) (hp : IsNxt g n (p + 1) Q) : o = some p ↔ Q = some i := by
  constructor
  · intro e; subst e
    obtain ⟨h1, h2, h3⟩ := hi
    exact nxt_uniq hp ⟨by omega, hin, hig, fun k a b => h3 k (by omega) b⟩
  · intro e; subst e
    obtain ⟨h1, h2, h3, h4⟩ := hp
    exact prv_uniq hi ⟨by omega, hpg, fun k a b => h4 k (by omega) b⟩

/-- the front is p just where p has no left neighbour -/
theorem front_iff {g : Nat → Bool} {n p : Nat} {F P : Option Nat} (hpn : p < n) (hpg : g p = false) (hF : IsNxt g n 0 F) (hP : IsPrv g p P) : F = some p ↔ P = none := by
  constructor
  · intro e; subst e
    exact prv_uniq hP (o' := none) (fun k hk => hF.2.2.2 k (by omega) hk)
  · intro e; subst e
    exact nxt_uniq hF ⟨by omega, hpn, hpg, fun k _ hk => hP k hk⟩

theorem back_iff {g : Nat → Bool} {n p : Nat} {K Q : Option Nat} (hpn : p < n) (hpg : g p = false) (hK : IsPrv g n K) (hQ : IsNxt g n (p + 1) Q) : K = some p ↔ Q = none := by
  constructor
  · intro e; subst e
    exact nxt_uniq hQ (o' := none) (fun k hk hk2 => hK.2.2 k (by omega) hk2)
  · intro e; subst e
    exact prv_uniq hK ⟨hpn, hpg, fun k a b => hQ k (by omega) b⟩

/-- the places below i that are not gone, in order -/
def al (g : Nat → Bool) : Nat → List Nat
  | 0 => []
  | i + 1 => if g i = true then al g i else al g i ++ [i]

theorem al_gone {g : Nat → Bool} {i : Nat} (h : g i = true) : al g (i + 1) = al g i := by simp [al, h]
theorem al_here {g : Nat → Bool} {i : Nat} (h : g i = false) : al g (i + 1) = al g i ++ [i] := by simp [al, h]
theorem al_len {g : Nat → Bool} (i : Nat) : (al g i).length ≤ i := by
  induction i with
  | zero => simp [al]
  | succ i ih =>
    unfold al
    split
    · omega
    · rw [List.length_append, List.length_singleton]; omega
theorem al_stretch {g : Nat → Bool} {i : Nat} (d : Nat) (h : ∀ k, i ≤ k → k < i + d → g k = true) : al g (i + d) = al g i := by
  induction d with
  | zero => rfl
  | succ d ih => rw [← Nat.add_assoc, al_gone (h _ (by omega) (by omega)), ih (fun k a b => h k a (by omega))]
theorem al_same {g : Nat → Bool} {i j : Nat} (hij : i ≤ j) (h : ∀ k, i ≤ k → k < j → g k = true) : al g j = al g i := by
  obtain ⟨d, rfl⟩ : ∃ d, j = i + d := ⟨j - i, by omega⟩
  exact al_stretch d h
theorem al_prefix {g : Nat → Bool} {i : Nat} (d : Nat) : ∃ r, al g (i + d) = al g i ++ r := by
  induction d with
  | zero => exact ⟨[], by simp⟩
  | succ d ih =>
    obtain ⟨r, hr⟩ := ih
    rw [← Nat.add_assoc]
    by_cases h : g (i + d) = true
    · exact ⟨r, by rw [al_gone h, hr]⟩
    · exact ⟨r ++ [i + d], by rw [al_here (by simpa using h), hr, List.append_assoc]⟩
/-- the place j, not gone, stands at the index that its list's length says -/
theorem al_at {g : Nat → Bool} {n j : Nat} (hj : j < n) (h : g j = false) : (al g n)[(al g j).length]? = some j ∧ (al g j).length < (al g n).length := by
  obtain ⟨d, rfl⟩ : ∃ d, n = j + 1 + d := ⟨n - (j + 1), by omega⟩
  obtain ⟨r, hr⟩ := al_prefix (g := g) (i := j + 1) d
  rw [hr, al_here h]
  simp

end Go.Proofs.Qxb6617730a
