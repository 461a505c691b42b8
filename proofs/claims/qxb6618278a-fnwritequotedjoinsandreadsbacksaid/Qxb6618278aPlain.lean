/-
  THE PLAIN LAWS of quoted strings: no Go in sight.
-/
import Derived.WalkKit
namespace Go.Proofs.Qxb6618278a
set_option linter.unusedVariables false

/-- a quote or a backslash -/
def sp (c : UInt8) : Bool := c == 34 || c == 92
def esc (c : UInt8) : List UInt8 := if sp c = true then [92, c] else [c]
def body : List UInt8 → List UInt8
  | [] => []
  | c :: l => esc c ++ body l
def quote (l : List UInt8) : List UInt8 := 34 :: (body l ++ [34])
/-- how many -/
def spn : List UInt8 → Nat
  | [] => 0
  | c :: l => (if sp c = true then 1 else 0) + spn l

theorem body_append (a b : List UInt8) : body (a ++ b) = body a ++ body b := by
  induction a with
  | nil => rfl
  | cons c a ih => simp [body, ih, List.append_assoc]
theorem esc_len (c : UInt8) : 1 ≤ (esc c).length ∧ (esc c).length ≤ 2 := by unfold esc; split <;> simp
theorem body_len (l : List UInt8) : (body l).length = l.length + spn l := by
  induction l with
  | nil => rfl
  | cons c l ih =>
    simp only [body, spn, List.length_append, List.length_cons, ih]
    unfold esc
    split <;> simp <;> omega
theorem spn_le (l : List UInt8) : spn l ≤ l.length := by
  induction l with
  | nil => exact Nat.le_refl _
  | cons c l ih => simp only [spn, List.length_cons]; split <;> omega
theorem spn_append (a b : List UInt8) : spn (a ++ b) = spn a + spn b := by
  induction a with
  | nil => simp [spn]
  | cons c a ih => simp only [List.cons_append, spn, ih]; omega
theorem quote_len (l : List UInt8) : (quote l).length = l.length + 2 + spn l := by
  simp only [quote, List.length_cons, List.length_append, List.length_nil, body_len]; omega

theorem sp_34 : sp 34 = true := by decide
theorem sp_92 : sp 92 = true := by decide

/-- no quoted form's inside begins with a quote -/
theorem body_ne (c : UInt8) (l r r' : List UInt8) : ¬ (34 :: r = esc c ++ r') := by
  unfold esc
  intro h
  split at h
  · simp at h
  · next hs =>
    simp at h
    rw [← h.1] at hs
    exact hs sp_34

/-- THE QUOTED FORM ENDS ITSELF: what follows is told apart -/
theorem body_split : ∀ (a c r r' : List UInt8), body a ++ 34 :: r = body c ++ 34 :: r' → a = c ∧ r = r'
  | [], [], r, r', h => ⟨rfl, by simpa [body] using h⟩
  | [], y :: c, r, r', h => absurd (by simpa [body] using h) (body_ne y c r (body c ++ 34 :: r'))
  | x :: a, [], r, r', h => absurd (by simpa [body] using h.symm) (body_ne x a r' (body a ++ 34 :: r))
  | x :: a, y :: c, r, r', h => by
    simp only [body, List.append_assoc] at h
    have hxy : x = y ∧ body a ++ 34 :: r = body c ++ 34 :: r' := by
      unfold esc at h
      by_cases hx : sp x = true
      · by_cases hy : sp y = true
        · rw [if_pos hx, if_pos hy] at h
          simpa using h
        · rw [if_pos hx, if_neg hy] at h
          simp at h
          rw [← h.1] at hy
          exact absurd sp_92 hy
      · by_cases hy : sp y = true
        · rw [if_neg hx, if_pos hy] at h
          simp at h
          rw [h.1] at hx
          exact absurd sp_92 hx
        · rw [if_neg hx, if_neg hy] at h
          simpa using h
    obtain ⟨e, h2⟩ := hxy
    obtain ⟨e2, e3⟩ := body_split a c r r' h2
    exact ⟨by rw [e, e2], e3⟩

theorem quote_prefix {a c t : List UInt8} (h : quote a ++ t = quote c) : a = c := by
  have h2 : body a ++ 34 :: t = body c ++ 34 :: [] := by simpa [quote] using h
  exact (body_split _ _ _ _ h2).1

theorem quote_take {a c : List UInt8} (hl : (quote a).length ≤ (quote c).length) (h : (quote c).take (quote a).length = quote a) : a = c := by
  refine quote_prefix (t := (quote c).drop (quote a).length) ?_
  have := List.take_append_drop (quote a).length (quote c)
  rw [h] at this
  exact this

end Go.Proofs.Qxb6618278a
