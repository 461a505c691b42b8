/-
  zzDecodeQuoted reads back what was quoted.
-/
import Derived.Test.Qxb6618278aQuote
namespace Go.Proofs.Qxb6618278a
open Go.ChangeShapes Go.WideShapes Go.ChangeAt Go.RowKit
set_option linter.unusedVariables false

theorem byteAt (s : ByteArray) (i : Nat) (h : i < s.size) : s.data.toList[i]? = some s[i] := by
  rw [List.getElem?_eq_getElem (by simpa using h)]; rfl

/-- where text byte k's spelling begins -/
def pos (l : List UInt8) (k : Nat) : Nat := 1 + (body (l.take k)).length
theorem pos_zero (l : List UInt8) : pos l 0 = 1 := rfl
theorem quote_at (l : List UInt8) (k : Nat) (h : k < l.length) : ∃ pre post, quote l = pre ++ esc l[k] ++ (post ++ [34]) ∧ pre.length = pos l k := by
  refine ⟨34 :: body (l.take k), body (l.drop (k + 1)), ?_, by simp [pos]; omega⟩
  have e : l = l.take k ++ l[k] :: l.drop (k + 1) := by simp
  have e2 : body l = body (l.take k) ++ (esc l[k] ++ body (l.drop (k + 1))) := by
    conv => lhs; rw [e]
    rw [body_append]; rfl
  simp [quote, e2, List.append_assoc]
theorem pos_succ (l : List UInt8) (k : Nat) (h : k < l.length) : pos l (k + 1) = pos l k + (esc l[k]).length := by
  unfold pos
  rw [List.take_succ_eq_append_getElem h, body_append, List.length_append]
  simp [body]; omega
theorem pos_end (l : List UInt8) : pos l l.length + 1 = (quote l).length := by
  simp [pos, quote, List.take_of_length_le]; omega

/-- the bytes that the reader meets -/
theorem meets {s : ByteArray} {l : List UInt8} (hs : s.data.toList = quote l) (k : Nat) (h : k < l.length) :
    (sp l[k] = true → pos l k + 2 < s.size ∧ pos l (k + 1) = pos l k + 2 ∧ ∃ (h1 : pos l k < s.size) (h2 : pos l k + 1 < s.size), s[pos l k] = 92 ∧ s[pos l k + 1] = l[k]) ∧
    (sp l[k] = false → pos l k + 1 < s.size ∧ pos l (k + 1) = pos l k + 1 ∧ ∃ (h1 : pos l k < s.size), s[pos l k] = l[k]) := by
  obtain ⟨pre, post, e, hl⟩ := quote_at l k h
  have hz : s.size = (quote l).length := by rw [Lib.size_eq, hs]
  have hp := pos_succ l k h
  rw [e] at hs hz
  simp only [List.length_append, List.length_cons, List.length_nil, hl] at hz
  have hg : ∀ i (hi : i < s.size), s.data.toList[i]? = some s[i] := fun i hi => byteAt s i hi
  refine ⟨fun hsp => ?_, fun hsp => ?_⟩
  · have he : esc l[k] = [92, l[k]] := by unfold esc; rw [if_pos hsp]
    rw [he] at hs hz hp
    simp only [List.length_cons, List.length_nil] at hz hp
    have h1 : pos l k < s.size := by omega
    have h2 : pos l k + 1 < s.size := by omega
    refine ⟨by omega, by omega, h1, h2, ?_, ?_⟩
    · have := hg _ h1
      rw [hs, List.append_assoc, List.getElem?_append_right (by omega), hl] at this
      simpa using this.symm
    · have := hg _ h2
      rw [hs, List.append_assoc, List.getElem?_append_right (by omega), hl] at this
      simpa using this.symm
  · have he : esc l[k] = [l[k]] := by unfold esc; rw [if_neg (by simp [hsp])]
    rw [he] at hs hz hp
    simp only [List.length_cons, List.length_nil] at hz hp
    have h1 : pos l k < s.size := by omega
    refine ⟨by omega, by omega, h1, ?_⟩
    have := hg _ h1
    rw [hs, List.append_assoc, List.getElem?_append_right (by omega), hl] at this
    simpa using this.symm

theorem ends {s : ByteArray} {l : List UInt8} (hs : s.data.toList = quote l) : ∃ (h0 : 0 < s.size) (h1 : s.size - 1 < s.size), s[0] = 34 ∧ s[s.size - 1] = 34 := by
  have hz : s.size = (quote l).length := by rw [Lib.size_eq, hs]
  have hq := quote_len l
  have h0 : 0 < s.size := by omega
  have h1 : s.size - 1 < s.size := by omega
  refine ⟨h0, h1, ?_, ?_⟩
  · have := byteAt s 0 h0
    rw [hs] at this
    simpa [quote] using this.symm
  · have := byteAt s _ h1
    rw [hs] at this
    have hx : (quote l)[s.size - 1]? = some 34 := by rw [hz]; simp [quote]
    exact Option.some.inj (this.symm.trans hx)

theorem meetsP {s : ByteArray} {l : List UInt8} (hs : s.data.toList = quote l) (k : Nat) (h : k < l.length) :
    ∃ p, pos l k = p ∧ (sp l[k] = true → p + 2 < s.size ∧ pos l (k + 1) = p + 2 ∧ ∃ (h1 : p < s.size) (h2 : p + 1 < s.size), s[p] = 92 ∧ s[p + 1] = l[k]) ∧
    (sp l[k] = false → p + 1 < s.size ∧ pos l (k + 1) = p + 1 ∧ ∃ (h1 : p < s.size), s[p] = l[k]) :=
  ⟨pos l k, rfl, meets hs k h⟩

theorem take_snoc' (l : List UInt8) (k : Nat) (h : k < l.length) : Lib.byteCells (l.take (k + 1)) = Lib.byteCells (l.take k) ++ [.int .u8 (l[k].toNat : Int)] := by
  rw [List.take_succ_eq_append_getElem h, Lib.byteCells_append]; rfl

set_option maxHeartbeats 1000000 in
set_option maxRecDepth 100000 in
theorem decode_any (s : ByteArray) (l : List UInt8) (w : World) (hs : s.data.toList = quote l) (hl : l.length ≤ 16777216) :
    Calls Try.prog 12 #[.string s] w fun e w' => e = .returned (.tuple #[.string ⟨l.toArray⟩, .bool true]) ∧ Below w.heap.size w w' := by
  obtain ⟨i0, hi, hz0, hz1, hz2⟩ := info_parts Try.info5
  have hz : s.size = (quote l).length := by rw [Lib.size_eq, hs]
  have hq := quote_len l
  have hsl := spn_le l
  obtain ⟨h0, h1, e0, e1⟩ := ends hs
  have c0 : (s[0].toNat : Int) = 34 := by rw [e0]; rfl
  have c1 : (s[s.size - 1].toNat : Int) = 34 := by rw [e1]; rfl
  have hpe := pos_end l
  have M := hidden (meetsP hs)
  have b1 : l.length + 2 ≤ s.size := by omega
  have b2 : s.size ≤ 40000000 := by omega
  have P := hidden (show pos l l.length + 1 = s.size by omega)
  clear hs hz hq e0 e1 hpe hsl
  go_enter Try.func12, Try.ntmps12
  go_wp2_with (at_make; refine wpList_make_own _ rfl _ _ 24 rfl w.heap.size 5 i0 (.int .u8 0) 1 Try.underlying24 hi hz0 hz1 _ _ _ s.size rfl rfl (by omega) ?b2 ?b3 (Nat.le_refl _) ?_)
  case b2 => rw [hz2]; omega
  case b3 => unfold maxLen; omega
  intro w0 hown0 hgrow0
  go_wp2
  go_loopw [5, 6] (fun v i wr => ∃ k : Nat, k ≤ l.length ∧ i = .int .i64 (pos l k) ∧ v = .slice (some ⟨w.heap.size, 0, none⟩) k s.size ∧
      wr.ownsRow w.heap.size 5 1 (.slice (some ⟨w.heap.size, 0, none⟩) k s.size) k (Lib.byteCells (l.take k)) ∧ Below w.heap.size w wr) (fun _ i _ => s.size - (intOf i).toNat)
  case atStart => exact ⟨0, Nat.zero_le _, rfl, rfl, hown0, (Below.refl _ _).grown hgrow0 (Nat.le_refl _) (fun k h => by cases h)⟩
  case round =>
    clear hown0 hgrow0
    obtain ⟨k, hk, rfl, rfl, hown, hbel⟩ := hrel
    by_cases hlt : k < l.length
    · obtain ⟨p, hp, M1, M2⟩ := M.out k hlt
      have T := hidden (take_snoc' l k hlt)
      cases hsp : sp l[k] with
      | true =>
        obtain ⟨m1, m2, m3, m4, m5, m6⟩ := M1 hsp
        have E := hidden m2
        have d1 : (s[p].toNat : Int) = 92 := by rw [m5]; rfl
        clear M1 M2 m5
        rcases (sp_iff _).1 hsp with h34 | h92
        · have HH := hidden h34
          have d2 : (s[p + 1].toNat : Int) = 34 := by rw [m6]; exact h34
          clear h34
          rw [hp]
          clear hp m2 m6 hsp
          go_wp2_with (at_builtin; refine wpList_append_fits _ rfl (.tmp 53) (.tmp 55) 24 rfl w.heap.size 5 i0 1 Try.underlying24 hi hz1 w.heap.size k s.size _ rfl (hown.alloc _) ⟨wr.heap.size, 0, none⟩ 1 1 [.int .u8 34] rfl rfl (by intro t u ht; match t, ht with | 0, ht => simp at ht; subst ht; simp [Addr.add]) (by intro u hu; simp at hu; subst hu; rfl) (by omega) ?_; intro w1 hown1 hgrow1)
          go_roundw
          case rel => exact ⟨k + 1, by omega, by rw [E.out]; go_num, rfl, by rw [T.out, HH.out]; exact hown1, (hbel.alloc hbel.size _).grown hgrow1 (by simp; have := hbel.size; omega) (fun k hk => by cases hk; exact Nat.le_refl _)⟩
          case measure => simp [intOf]; omega
        · have HH := hidden h92
          have d2 : (s[p + 1].toNat : Int) = 92 := by rw [m6]; exact h92
          clear h92
          rw [hp]
          clear hp m2 m6 hsp
          go_wp2_with (at_builtin; refine wpList_append_fits _ rfl (.tmp 53) (.tmp 55) 24 rfl w.heap.size 5 i0 1 Try.underlying24 hi hz1 w.heap.size k s.size _ rfl (hown.alloc _) ⟨wr.heap.size, 0, none⟩ 1 1 [.int .u8 92] rfl rfl (by intro t u ht; match t, ht with | 0, ht => simp at ht; subst ht; simp [Addr.add]) (by intro u hu; simp at hu; subst hu; rfl) (by omega) ?_; intro w1 hown1 hgrow1)
          go_roundw
          case rel => exact ⟨k + 1, by omega, by rw [E.out]; go_num, rfl, by rw [T.out, HH.out]; exact hown1, (hbel.alloc hbel.size _).grown hgrow1 (by simp; have := hbel.size; omega) (fun k hk => by cases hk; exact Nat.le_refl _)⟩
          case measure => simp [intOf]; omega
      | false =>
        obtain ⟨m1, m2, m3, m4⟩ := M2 hsp
        have E := hidden m2
        have hns : ¬ sp l[k] = true := by rw [hsp]; simp
        have n34 : ((s[p].toNat : Int) == 34) = false := beq_eq_false_iff_ne.2 fun h => hns ((sp_iff _).2 (.inl (by rw [← m4]; exact h)))
        have n92 : ((s[p].toNat : Int) == 92) = false := beq_eq_false_iff_ne.2 fun h => hns ((sp_iff _).2 (.inr (by rw [← m4]; exact h)))
        rw [← m4] at T
        rw [hp]
        clear M1 M2 hns hp m2 m4 hsp
        go_wp2_with (at_builtin; refine wpList_append_fits _ rfl (.tmp 59) (.tmp 61) 24 rfl w.heap.size 5 i0 1 Try.underlying24 hi hz1 w.heap.size k s.size _ rfl (hown.alloc _) ⟨wr.heap.size, 0, none⟩ 1 1 [.int .u8 (s[p].toNat : Int)] rfl rfl (by intro t u ht; match t, ht with | 0, ht => simp at ht; subst ht; simp [Addr.add]) (by intro u hu; simp at hu; subst hu; rfl) (by omega) ?_; intro w1 hown1 hgrow1)
        go_roundw
        case rel => exact ⟨k + 1, by omega, by rw [E.out]; go_num, rfl, by rw [T.out]; exact hown1, (hbel.alloc hbel.size _).grown hgrow1 (by simp; have := hbel.size; omega) (fun k hk => by cases hk; exact Nat.le_refl _)⟩
        case measure => simp [intOf]; omega
    · obtain rfl : l.length = k := by omega
      have hp := P.out
      obtain ⟨p, hpp⟩ : ∃ p, pos l l.length = p := ⟨_, rfl⟩
      rw [hpp] at hp ⊢
      clear P hpp
      have hcv : (convert 24 9 (.slice (some ⟨w.heap.size, 0, none⟩) l.length s.size)).run Try.prog wr = .ok (.string ⟨l.toArray⟩) wr := by
        refine run_convert_bytes_back (P := Try.prog) wr 24 9 5 ⟨w.heap.size, 0, none⟩ s.size l Try.underlying24 Try.underlying5 Try.underlying9 fun j hj => ?_
        have := hown.cellAt j (by omega)
        rw [List.take_of_length_le (Nat.le_refl _)] at this
        rw [add_plain]
        simpa [Lib.byteCells, hj] using this
      have hlt2 : ¬ (p : Int) < (s.size : Int) - 1 := by omega
      clear hp
      go_wp2
      go_ret2
      exact ⟨rfl, hbel⟩

end Go.Proofs.Qxb6618278a
