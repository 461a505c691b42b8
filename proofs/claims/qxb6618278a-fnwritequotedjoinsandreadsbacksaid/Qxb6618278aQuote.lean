/-
  WriteQuoted and zzQuote.
-/
import Derived.Test.Qxb6618278aBuilder
import Derived.Test.Qxb6618278aPlain
import Derived.Outline
namespace Go.Proofs.Qxb6618278a
open Go.ChangeShapes Go.WideShapes Go.ChangeAt Go.RowKit
set_option linter.unusedVariables false

theorem hidden {p : Prop} (h : p) : Hid p := h

theorem take_snoc (s : ByteArray) (k : Nat) (h : k < s.size) : s.data.toList.take (k + 1) = s.data.toList.take k ++ [s[k]] := by
  rw [List.take_succ_eq_append_getElem (by simpa using h)]; rfl

/-- what the builder holds when k bytes of the text are written -/
def soFar (acc : List UInt8) (s : ByteArray) (k : Nat) : List UInt8 := acc ++ 34 :: body (s.data.toList.take k)
theorem soFar_zero (acc : List UInt8) (s : ByteArray) : soFar acc s 0 = acc ++ [34] := by simp [soFar, body]
theorem soFar_step (acc : List UInt8) (s : ByteArray) (k : Nat) (h : k < s.size) : soFar acc s (k + 1) = soFar acc s k ++ esc s[k] := by
  simp [soFar, take_snoc s k h, body_append, body, List.append_assoc]
theorem soFar_len (acc : List UInt8) (s : ByteArray) (k : Nat) (h : k ≤ s.size) : (soFar acc s k).length ≤ acc.length + 1 + 2 * k := by
  have h1 := body_len (s.data.toList.take k)
  have h2 := spn_le (s.data.toList.take k)
  have h3 : (s.data.toList.take k).length ≤ k := List.length_take_le _ _
  simp only [soFar, List.length_append, List.length_cons]
  omega
theorem soFar_end (acc : List UInt8) (s : ByteArray) : soFar acc s s.size ++ [34] = acc ++ quote s.data.toList := by
  have : s.data.toList.take s.size = s.data.toList := List.take_of_length_le (by simp)
  simp [soFar, quote, this]

theorem cells_put (l : List UInt8) (c : UInt8) : Lib.byteCells l ++ [.int .u8 (c.toNat : Int)] = Lib.byteCells (l ++ [c]) := by simp [Lib.byteCells]
theorem cells_put34 (l : List UInt8) : Lib.byteCells l ++ [.int .u8 34] = Lib.byteCells (l ++ [34]) := by simp [Lib.byteCells]
theorem cells_put92 (l : List UInt8) : Lib.byteCells l ++ [.int .u8 92] = Lib.byteCells (l ++ [92]) := by simp [Lib.byteCells]

theorem sp_iff (c : UInt8) : sp c = true ↔ ((c.toNat : Int) = 34 ∨ (c.toNat : Int) = 92) := by
  unfold sp
  rw [Bool.or_eq_true, beq_iff_eq, beq_iff_eq, ← UInt8.toNat_inj, ← UInt8.toNat_inj]
  simp
  omega

set_option maxHeartbeats 1000000 in
set_option maxRecDepth 100000 in
theorem writeQuoted_any (B b : Nat) (acc : List UInt8) (s : ByteArray) (w : World) (h : Lib.IsBuilder 26 5 B b (Lib.byteCells acc) w) (hs : s.size ≤ 1048576) (hlen : acc.length ≤ 16777216) (hBw : B ≤ w.heap.size) :
    Calls Try.prog 7 #[.pointer (some ⟨b, 0, none⟩), .string s] w fun e w' => e = .returned (.tuple #[]) ∧ (Lib.BuilderAt 26 5 B b (.pointer (some ⟨b, 0, none⟩)) (Lib.byteCells (acc ++ quote s.data.toList)) w' ∧ Below B w w') := by
  have hl0 := Lib.byteCells_length acc
  have C0 := hidden (writeByte_any B b (Lib.byteCells acc) 34 w h (by omega) hBw)
  clear h hl0
  go_enter Try.func7, Try.ntmps7
  go_wp2_with fail
  refine C0.out.mono ?_
  rintro e w1 ⟨rfl, h1, hb1⟩
  clear C0
  rw [cells_put34, ← soFar_zero acc s] at h1
  go_wp2_with fail
  go_loopw [10] (fun i wr => ∃ k : Nat, k ≤ s.size ∧ i = .int .i64 k ∧ Lib.BuilderAt 26 5 B b (.pointer (some ⟨b, 0, none⟩)) (Lib.byteCells (soFar acc s k)) wr ∧ Below B w wr) (fun i _ => s.size - (intOf i).toNat)
  case atStart => exact ⟨0, Nat.zero_le _, rfl, h1, hb1⟩
  case round =>
    clear h1 hb1
    obtain ⟨k, hk, rfl, hbd, hbel⟩ := hrel
    have hln := soFar_len acc s k hk
    have hcl := Lib.byteCells_length (soFar acc s k)
    have hsz := hbel.size
    by_cases hlt : k < s.size
    · have E := hidden (soFar_step acc s k hlt)
      by_cases hsp : sp s[k] = true
      · have e2 := hidden (show esc s[k] = [92, s[k]] by unfold esc; rw [if_pos hsp])
        have C1 := hidden (writeByte_any B b (Lib.byteCells (soFar acc s k)) 92 wr (.inr hbd) (by omega) (by omega))
        clear hbd hcl
        rcases (sp_iff _).1 hsp with h34 | h92
        · go_wp2_with fail
          refine C1.out.mono ?_
          rintro e w2 ⟨rfl, h2, hb2⟩
          rw [cells_put92] at h2
          have C2 := hidden (writeByte_any B b (Lib.byteCells (soFar acc s k ++ [92])) 34 w2 (.inr h2) (by simp [Lib.byteCells_length]; omega) (by have := hb2.size; omega))
          clear h2
          go_wp2_with fail
          refine C2.out.mono ?_
          rintro e w3 ⟨rfl, h3, hb3⟩
          have R := hidden (show Lib.BuilderAt 26 5 B b (.pointer (some ⟨b, 0, none⟩)) (Lib.byteCells (soFar acc s (k + 1))) w3 by
            rw [E.out, e2.out, show soFar acc s k ++ [92, s[k]] = (soFar acc s k ++ [92]) ++ [s[k]] by simp, ← cells_put]; rw [h34]; exact h3)
          clear h3
          go_wp2
          go_roundw
          case rel => exact ⟨k + 1, by omega, by go_num, R.out, (hbel.trans hb2).trans hb3⟩
          case measure => simp [intOf]; omega
        · go_wp2_with fail
          refine C1.out.mono ?_
          rintro e w2 ⟨rfl, h2, hb2⟩
          rw [cells_put92] at h2
          have C2 := hidden (writeByte_any B b (Lib.byteCells (soFar acc s k ++ [92])) 92 w2 (.inr h2) (by simp [Lib.byteCells_length]; omega) (by have := hb2.size; omega))
          clear h2
          go_wp2_with fail
          refine C2.out.mono ?_
          rintro e w3 ⟨rfl, h3, hb3⟩
          have R := hidden (show Lib.BuilderAt 26 5 B b (.pointer (some ⟨b, 0, none⟩)) (Lib.byteCells (soFar acc s (k + 1))) w3 by
            rw [E.out, e2.out, show soFar acc s k ++ [92, s[k]] = (soFar acc s k ++ [92]) ++ [s[k]] by simp, ← cells_put]; rw [h92]; exact h3)
          clear h3
          go_wp2
          go_roundw
          case rel => exact ⟨k + 1, by omega, by go_num, R.out, (hbel.trans hb2).trans hb3⟩
          case measure => simp [intOf]; omega
      · have e2 := hidden (show esc s[k] = [s[k]] by unfold esc; rw [if_neg hsp])
        have n34 : ((s[k].toNat : Int) == 34) = false := beq_eq_false_iff_ne.2 fun h => hsp ((sp_iff _).2 (.inl h))
        have n92 : ((s[k].toNat : Int) == 92) = false := beq_eq_false_iff_ne.2 fun h => hsp ((sp_iff _).2 (.inr h))
        have C1 := hidden (writeByte_any B b (Lib.byteCells (soFar acc s k)) (s[k].toNat : Int) wr (.inr hbd) (by omega) (by omega))
        clear hbd hcl
        go_wp2_with fail
        refine C1.out.mono ?_
        rintro e w2 ⟨rfl, h2, hb2⟩
        have R := hidden (show Lib.BuilderAt 26 5 B b (.pointer (some ⟨b, 0, none⟩)) (Lib.byteCells (soFar acc s (k + 1))) w2 by rw [E.out, e2.out, ← cells_put]; exact h2)
        clear h2
        go_wp2
        go_roundw
        case rel => exact ⟨k + 1, by omega, by go_num, R.out, hbel.trans hb2⟩
        case measure => simp [intOf]; omega
    · obtain rfl : s.size = k := by omega
      have C1 := hidden (writeByte_any B b (Lib.byteCells (soFar acc s s.size)) 34 wr (.inr hbd) (by omega) (by omega))
      clear hbd hcl
      go_wp2_with fail
      refine C1.out.mono ?_
      rintro e w2 ⟨rfl, h2, hb2⟩
      rw [cells_put34, soFar_end] at h2
      go_wp2
      go_end0
      exact ⟨rfl, h2, hbel.trans hb2⟩

set_option maxHeartbeats 1000000 in
set_option maxRecDepth 100000 in
theorem zzQuote_any (s : ByteArray) (w : World) (hs : s.size ≤ 1048576) :
    Calls Try.prog 10 #[.string s] w fun e w' => e = .returned (.string ⟨(quote s.data.toList).toArray⟩) ∧ Below w.heap.size w w' := by
  have C0 := hidden (writeQuoted_any w.heap.size w.heap.size [] s (w.alloc (.cells #[.pointer none, .slice none 0 0] 26)) (Lib.fresh_isBuilder 26 5 w) hs (by simp) (by simp))
  go_enter Try.func10, Try.ntmps10
  go_wp2_with fail
  refine C0.out.mono ?_
  rintro e w1 ⟨rfl, h1, hb1⟩
  have hsz := hb1.size
  rw [World.size_alloc] at hsz
  have C1 := hidden (Try.Builder_String_any w.heap.size w.heap.size (quote s.data.toList) w1 (.inr h1) (by omega))
  clear C0 h1
  go_wp2_with fail
  refine C1.out.mono ?_
  rintro e w2 ⟨rfl, hb2⟩
  go_wp2
  go_ret
  exact ⟨rfl, ((Below.refl _ _).alloc (Nat.le_refl _) _).trans (hb1.trans hb2)⟩

theorem ret_int {k : IntKind} {a b : Int} (h : a = b) : Ending.returned (.int k a) = .returned (.int k b) := by rw [h]
theorem spn_one (c : UInt8) : spn [c] = if sp c = true then 1 else 0 := by simp [spn]

set_option maxHeartbeats 400000 in
theorem zzSpecials_any (s : ByteArray) (w : World) (hs : s.size ≤ 1048576) :
    Calls Try.prog 14 #[.string s] w fun e w' => e = .returned (.int .i64 (spn s.data.toList)) ∧ w' = w := by
  go_enter Try.func14, Try.ntmps14
  go_wp2
  go_loop [3, 4] (fun n i => ∃ k : Nat, k ≤ s.size ∧ i = .int .i64 k ∧ n = .int .i64 (spn (s.data.toList.take k))) (fun _ i => s.size - (intOf i).toNat)
  case atStart => exact ⟨0, Nat.zero_le _, rfl, rfl⟩
  case round =>
    obtain ⟨k, hk, rfl, rfl⟩ := hrel
    have hd := spn_le (s.data.toList.take k)
    have hl : (s.data.toList.take k).length ≤ k := List.length_take_le _ _
    by_cases hlt : k < s.size
    · have E := hidden (show spn (s.data.toList.take (k + 1)) = spn (s.data.toList.take k) + (if sp s[k] = true then 1 else 0) by rw [take_snoc s k hlt, spn_append, spn_one])
      by_cases hsp : sp s[k] = true
      · have E2 := hidden (show spn (s.data.toList.take (k + 1)) = spn (s.data.toList.take k) + 1 by rw [E.out, if_pos hsp])
        clear E
        rcases (sp_iff _).1 hsp with h34 | h92
        all_goals
          go_wp2
          go_round
          case rel => exact ⟨k + 1, by omega, by go_num, by rw [E2.out]; go_num⟩
          case measure => simp [intOf]; omega
      · have E2 := hidden (show spn (s.data.toList.take (k + 1)) = spn (s.data.toList.take k) by rw [E.out, if_neg hsp]; rfl)
        have n34 : ((s[k].toNat : Int) == 34) = false := beq_eq_false_iff_ne.2 fun h => hsp ((sp_iff _).2 (.inl h))
        have n92 : ((s[k].toNat : Int) == 92) = false := beq_eq_false_iff_ne.2 fun h => hsp ((sp_iff _).2 (.inr h))
        clear E
        go_wp2
        go_round
        case rel => exact ⟨k + 1, by omega, by go_num, by rw [E2.out]⟩
        case measure => simp [intOf]; omega
    · have E := hidden (show s.data.toList.take k = s.data.toList from List.take_of_length_le (by simp; omega))
      go_wp2
      go_ret
      exact ⟨ret_int (by rw [E.out]), rfl⟩

/-- zzHasPrefix, plainly -/
def hp (s p : ByteArray) : Bool := decide (p.size ≤ s.size) && ((s.extract 0 p.size).toList == p.toList)
theorem hp_eq (s p : ByteArray) : hp s p = true ↔ p.data.toList <+: s.data.toList := by
  unfold hp
  rw [Bool.and_eq_true, decide_eq_true_iff, beq_iff_eq, Lib.extract_toList, Lib.toList_data, Lib.size_eq, Lib.size_eq]
  simp only [List.drop_zero, Nat.sub_zero]
  constructor
  · rintro ⟨h1, h2⟩
    rw [← h2]; exact List.take_prefix _ _
  · intro h
    exact ⟨h.length_le, (List.prefix_iff_eq_take.1 h).symm⟩

set_option maxHeartbeats 400000 in
theorem hasPrefix_any (s p : ByteArray) (w : World) (hs : s.size ≤ maxLen) (hpl : p.size ≤ maxLen) :
    Calls Try.prog 11 #[.string s, .string p] w fun e w' => e = .returned (.bool (hp s p)) ∧ w' = w := by
  unfold maxLen at hs hpl
  by_cases h : p.size ≤ s.size
  · go_enter Try.func11, Try.ntmps11
    go_wp2
    go_ret
    exact ⟨by simp [hp, h], rfl⟩
  · go_enter Try.func11, Try.ntmps11
    go_wp2
    go_ret
    exact ⟨by simp [hp, h], rfl⟩

theorem hasPrefix_no (s p : ByteArray) (w : World) (hs : s.size ≤ maxLen) (hpl : p.size ≤ maxLen) (h : hp s p = false) :
    Calls Try.prog 11 #[.string s, .string p] w fun e w' => e = .returned (.bool false) ∧ w' = w :=
  (hasPrefix_any s p w hs hpl).mono fun e w' ⟨he, hw⟩ => ⟨by rw [he, h], hw⟩
theorem hasPrefix_yes (s p : ByteArray) (w : World) (hs : s.size ≤ maxLen) (hpl : p.size ≤ maxLen) (h : hp s p = true) :
    Calls Try.prog 11 #[.string s, .string p] w fun e w' => e = .returned (.bool true) ∧ w' = w :=
  (hasPrefix_any s p w hs hpl).mono fun e w' ⟨he, hw⟩ => ⟨by rw [he, h], hw⟩

end Go.Proofs.Qxb6618278a
