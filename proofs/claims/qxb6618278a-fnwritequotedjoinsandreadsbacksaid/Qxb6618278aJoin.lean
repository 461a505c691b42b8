/-
  FnWriteQuotedJoinsAndReadsBack: the law's own walk.
-/
import Derived.Test.Qxb6618278aInj
import Derived.Test.Qxb6618278aDecode
import Derived.Deep.QuietTactic
import Derived.BigQuiet
namespace Go.Proofs.Qxb6618278a
open Go.ChangeShapes Go.WideShapes Go.ChangeAt Go.RowKit
set_option linter.unusedVariables false

theorem zzb3_any (p a c : ByteArray) (w : World) (h : p.size ≤ maxLen) (h0 : a.size ≤ maxLen) (h1 : c.size ≤ maxLen) :
    Calls Try.prog 5 #[.string p, .string a, .string c] w fun e w' => (∃ b, e = .returned (.bool b)) ∧ w' = w := by
  unfold maxLen at h h0 h1
  go_enter Try.func5, Try.ntmps5
  go_wp2
  all_goals (go_ret; exact ⟨⟨_, rfl⟩, rfl⟩)
theorem zzb3_yes (p a c : ByteArray) (w : World) (h : p.size ≤ 262144) (h0 : a.size ≤ 262144) (h1 : c.size ≤ 262144) :
    Calls Try.prog 5 #[.string p, .string a, .string c] w fun e w' => e = .returned (.bool true) ∧ w' = w := by
  go_enter Try.func5, Try.ntmps5
  go_wp2
  go_ret
  exact ⟨rfl, rfl⟩

theorem join_long (p a c : ByteArray) (w : World) (hp : p.size ≤ maxLen) (h0 : a.size ≤ maxLen) (h1 : c.size ≤ maxLen) (h : 262144 < p.size ∨ 262144 < a.size ∨ 262144 < c.size) :
    Calls Try.prog 3 #[.string p, .string a, .string c] w fun e w' => e = .returned (.bool true) ∧ Below w.heap.size w w' := by
  have H := hidden (zzb3_any p a c w hp h0 h1)
  unfold maxLen at hp h0 h1
  rcases Nat.lt_or_ge 262144 p.size with hl | hl
  · go_enter Try.func3, Try.ntmps3
    go_wp2_with (go_at_call 5; refine H.out.mono ?_; rintro e w' ⟨⟨b, rfl⟩, hw⟩; obtain rfl := hw.symm; cases b)
    all_goals (go_wp2; go_ret; exact ⟨rfl, Below.refl _ _⟩)
  · rcases Nat.lt_or_ge 262144 a.size with hl2 | hl2
    · go_enter Try.func3, Try.ntmps3
      go_wp2_with (go_at_call 5; refine H.out.mono ?_; rintro e w' ⟨⟨b, rfl⟩, hw⟩; obtain rfl := hw.symm; cases b)
      all_goals (go_wp2; go_ret; exact ⟨rfl, Below.refl _ _⟩)
    · have hl1 : 262144 < c.size := by omega
      go_enter Try.func3, Try.ntmps3
      go_wp2_with (go_at_call 5; refine H.out.mono ?_; rintro e w' ⟨⟨b, rfl⟩, hw⟩; obtain rfl := hw.symm; cases b)
      all_goals (go_wp2; go_ret; exact ⟨rfl, Below.refl _ _⟩)

theorem ba_ext {a b : ByteArray} (h : a.data.toList = b.data.toList) : a = b := by rw [← Lib.mk_data a, ← Lib.mk_data b, h]
theorem ba_append (a b : ByteArray) : (a ++ b).data.toList = a.data.toList ++ b.data.toList := by simp

/-- the plain side: what the builder's string is cut into -/
theorem join_facts (p a c : ByteArray) : ∃ (out : ByteArray) (m : Nat), (⟨(p.data.toList ++ quote a.data.toList ++ quote c.data.toList).toArray⟩ : ByteArray) = out ∧ (p.data.toList ++ quote a.data.toList).length = m ∧
    p.size ≤ m ∧ m ≤ out.size ∧ out.size ≤ p.size + 2 * a.size + 2 * c.size + 4 ∧ out.extract p.size m = qs a ∧ out.extract m out.size = qs c ∧ hp out p = true := by
  refine ⟨_, _, rfl, rfl, ?_, ?_, ?_, ?_, ?_, ?_⟩
  · rw [Lib.size_eq]; simp
  · rw [Lib.size_eq]; simp
  · rw [Lib.size_eq]
    have h1 := quote_len a.data.toList
    have h2 := quote_len c.data.toList
    have h3 := spn_size a
    have h4 := spn_size c
    have h5 := Lib.size_eq p
    have h6 := Lib.size_eq a
    have h7 := Lib.size_eq c
    simp only [List.length_append]
    omega
  · apply ba_ext
    rw [Lib.extract_data, qs_data, Lib.size_eq p]
    simp [List.append_assoc]
  · apply ba_ext
    rw [Lib.extract_data, qs_data, Lib.size_eq (ByteArray.mk _)]
    generalize quote a.data.toList = x
    generalize quote c.data.toList = y
    generalize p.data.toList = z
    have e : List.drop (z ++ x).length (z ++ x ++ y) = y := List.drop_left
    show List.take ((z ++ x ++ y).length - (z ++ x).length) (List.drop (z ++ x).length (z ++ x ++ y)) = y
    rw [e]
    exact List.take_of_length_le (by simp; omega)
  · rw [hp_eq]
    simp [List.append_assoc]

theorem join_whole (a c : ByteArray) : (qs a).extract 0 ((qs a).size - 1) ++ (qs c).extract 1 (qs c).size = qs (a ++ c) := by
  apply ba_ext
  rw [ba_append, Lib.extract_data, Lib.extract_data, qs_data, qs_data, qs_data, ba_append, Lib.size_eq (qs a), Lib.size_eq (qs c), qs_data, qs_data]
  simp [quote, body_append]
  exact List.take_of_length_le (by simp)

theorem decode_s (s a : ByteArray) (w : World) (hs : s.data.toList = quote a.data.toList) (hl : a.size ≤ 16777216) :
    Calls Try.prog 12 #[.string s] w fun e w' => e = .returned (.tuple #[.string a, .bool true]) ∧ Below w.heap.size w w' := by
  have := decode_any s a.data.toList w hs (by rw [← Lib.size_eq]; exact hl)
  rwa [Lib.mk_data] at this

theorem ret_bool {a b : Bool} (h : a = b) : Ending.returned (.bool a) = .returned (.bool b) := by rw [h]
theorem qs_mk (a : ByteArray) : (⟨(quote a.data.toList).toArray⟩ : ByteArray) = qs a := rfl

set_option maxHeartbeats 2000000 in
set_option maxRecDepth 100000 in
theorem join_short (p a c : ByteArray) (w : World) (h : p.size ≤ 262144) (h0 : a.size ≤ 262144) (h1 : c.size ≤ 262144) :
    Calls Try.prog 3 #[.string p, .string a, .string c] w fun e w' => e = .returned (.bool true) ∧ Below w.heap.size w w' := by
  have Z := hidden (zzb3_yes p a c w h h0 h1)
  obtain ⟨out, m, hout, hm, f1, f2, f3, f4, f5, f6⟩ := join_facts p a c
  have F4 := hidden f4
  have F5 := hidden f5
  have HP := hidden f6
  have HO := hidden hout
  have HM := hidden hm
  have hq := quote_len a.data.toList
  have sz := Lib.size_eq p
  have sz2 := Lib.size_eq a
  have sz3 := spn_size a
  have B0 := hidden (writeString_any w.heap.size w.heap.size [] p (w.alloc (.cells #[.pointer none, .slice none 0 0] 26)) (Lib.fresh_isBuilder 26 5 w) (by simp; omega) (by simp))
  have hlen : p.data.toList.length ≤ 16777216 := by omega
  have hlen2 : (p.data.toList ++ quote a.data.toList).length ≤ 16777216 := by rw [List.length_append]; omega
  clear f4 f5 f6 hout hm hq sz sz2 sz3
  go_enter Try.func3, Try.ntmps3
  go_wp2_with fail
  refine Z.out.mono ?_
  rintro e w' ⟨rfl, hw⟩
  obtain rfl := hw.symm
  go_wp2_with fail
  refine B0.out.mono ?_
  rintro e w1 ⟨rfl, k1, hb1⟩
  have s1 : w.heap.size ≤ w1.heap.size := by have := hb1.size; rw [World.size_alloc] at this; omega
  have C1 := hidden (writeQuoted_any w.heap.size w.heap.size p.data.toList a w1 (.inr (by exact k1)) (by omega) hlen s1)
  clear k1 B0 Z
  go_wp2_with fail
  refine C1.out.mono ?_
  rintro e w2 ⟨rfl, k2, hb2⟩
  have s2 : w.heap.size ≤ w2.heap.size := by have := hb2.size; omega
  have C2 := hidden (Try.Builder_Len w.heap.size w.heap.size _ w2 (.inr k2))
  rw [Lib.byteCells_length, HM.out] at C2
  have C3 := hidden (writeQuoted_any w.heap.size w.heap.size (p.data.toList ++ quote a.data.toList) c w2 (.inr k2) (by omega) hlen2 s2)
  clear k2 C1
  go_wp2_with fail
  refine C2.out.mono ?_
  rintro e w' ⟨rfl, hw⟩
  obtain rfl := hw.symm
  go_wp2_with fail
  refine C3.out.mono ?_
  rintro e w3 ⟨rfl, k3, hb3⟩
  have s3 : w.heap.size ≤ w3.heap.size := by have := hb3.size; omega
  have C4 := hidden (Try.Builder_String_any w.heap.size w.heap.size _ w3 (.inr k3) s3)
  rw [HO.out] at C4
  clear C2 C3 k3
  go_wp2_with fail
  refine C4.out.mono ?_
  rintro e w4 ⟨rfl, hb4⟩
  have B4 : Below w.heap.size w w4 := ((((Below.refl _ _).alloc (Nat.le_refl _) _).trans hb1).trans hb2).trans (hb3.trans hb4)
  clear hb1 hb2 hb3 hb4 s1 s2 s3 C4
  have hsum : (a ++ c).size = a.size + c.size := ByteArray.size_append
  have C5 := hidden (zzQuote_any (a ++ c) w4 (by omega))
  rw [qs_mk] at C5
  clear hsum
  go_wp2_with fail
  refine C5.out.mono ?_
  rintro e w5 ⟨rfl, hb5⟩
  have B5 : Below w.heap.size w w5 := B4.trans (hb5.mono B4.size)
  have C6 := hidden (hasPrefix_yes out p w5 (by unfold maxLen; omega) (by unfold maxLen; omega) HP.out)
  have HW := hidden (join_whole a c)
  have D1 := hidden (fun wx => decode_s (qs a) a wx (qs_data a) (by omega))
  have D2 := hidden (fun wx => decode_s (qs c) c wx (qs_data c) (by omega))
  have hsum : (a ++ c).size = a.size + c.size := ByteArray.size_append
  have D3 := hidden (fun wx => decode_s (qs (a ++ c)) (a ++ c) wx (qs_data (a ++ c)) (by omega))
  obtain ⟨qa, hqa⟩ : ∃ q, qs a = q := ⟨_, rfl⟩
  obtain ⟨qc, hqc⟩ : ∃ q, qs c = q := ⟨_, rfl⟩
  obtain ⟨qw, hqw⟩ : ∃ q, qs (a ++ c) = q := ⟨_, rfl⟩
  have za := qs_size a
  have zc := qs_size c
  have la := spn_size a
  have lc := spn_size c
  rw [hqa] at F4 HW D1 za
  rw [hqc] at F5 HW D2 zc
  rw [hqw] at HW D3 ⊢
  have l1 : 2 ≤ qa.size := by omega
  have l2 : 2 ≤ qc.size := by omega
  have l3 : qa.size ≤ 1000000 := by omega
  have l4 : qc.size ≤ 1000000 := by omega
  clear hqa hqc hqw za zc la lc B4 hb5 C5 HP HO HM hlen hlen2 hsum
  have f4 := F4.out
  have f5 := F5.out
  go_wp2_with fail
  refine C6.out.mono ?_
  rintro e w' ⟨rfl, hw⟩
  obtain rfl := hw.symm
  go_wp2_with fail
  refine (D1.out _).mono ?_
  rintro e w6 ⟨rfl, hb6⟩
  clear f4 f5
  go_wp2_with fail
  refine (D2.out _).mono ?_
  rintro e w7 ⟨rfl, hb7⟩
  go_wp2_with fail
  refine (D3.out _).mono ?_
  rintro e w8 ⟨rfl, hb8⟩
  have B8 : Below w.heap.size w w8 := ((B5.trans (hb6.mono B5.size)).trans (hb7.mono (Nat.le_trans B5.size hb6.size))).trans (hb8.mono (Nat.le_trans (Nat.le_trans B5.size hb6.size) hb7.size))
  clear D1 D2 D3 hb6 hb7 hb8 B5 C6
  obtain ⟨r, hr⟩ : ∃ r, qa.size - 1 = r := ⟨_, rfl⟩
  have hwr : IntKind.i64.wrap ((qa.size : Int) - 1) = (r : Int) := by rw [IntKind.wrap_i64]; omega
  have hr2 : r ≤ qa.size := by omega
  have hr3 : (r : Int) ≤ (qa.size : Int) := by omega
  have hr1 : (0 : Int) ≤ (r : Int) := by omega
  have hc1 : (1 : Int) ≤ (qc.size : Int) := by omega
  have hc2 : 1 ≤ qc.size := by omega
  rw [hr] at HW
  have HR := hidden hr
  clear hr
  go_wp2_with fail
  go_quiet (fail)
  go_wp2
  go_ret
  exact ⟨ret_bool (by rw [HW.out]; exact beq_self_eq_true _), ⟨B8.os, B8.tape, B8.output, B8.size, B8.block⟩⟩
end Go.Proofs.Qxb6618278a
