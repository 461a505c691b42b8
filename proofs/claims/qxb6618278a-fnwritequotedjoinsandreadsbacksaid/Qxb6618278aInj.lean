/-
  FnWriteQuotedIsInjectiveAndSelfDelimiting: the law's own walk.
-/
import Derived.Test.Qxb6618278aQuote
namespace Go.Proofs.Qxb6618278a
open Go.ChangeShapes Go.WideShapes Go.ChangeAt Go.RowKit
set_option linter.unusedVariables false

/-- the quoted form, as Go's string -/
def qs (a : ByteArray) : ByteArray := ⟨(quote a.data.toList).toArray⟩
theorem qs_data (a : ByteArray) : (qs a).data.toList = quote a.data.toList := by simp [qs]
theorem qs_size (a : ByteArray) : (qs a).size = a.size + 2 + spn a.data.toList := by
  rw [Lib.size_eq, qs_data, quote_len, ← Lib.size_eq]
theorem spn_size (a : ByteArray) : spn a.data.toList ≤ a.size := by
  have := spn_le a.data.toList
  rwa [← Lib.size_eq] at this
theorem qs_no {a c : ByteArray} (h : a ≠ c) : hp (qs a) (qs c) = false := by
  rw [Bool.eq_false_iff]
  intro hh
  rw [hp_eq, qs_data, qs_data] at hh
  obtain ⟨t, ht⟩ := hh
  have := quote_prefix ht
  exact h (by rw [← Lib.mk_data a, ← Lib.mk_data c, this])

theorem zzb4_any (a c : ByteArray) (w : World) (h0 : a.size ≤ maxLen) (h1 : c.size ≤ maxLen) :
    Calls Try.prog 13 #[.string a, .string c] w fun e w' => (∃ b, e = .returned (.bool b)) ∧ w' = w := by
  unfold maxLen at h0 h1
  go_enter Try.func13, Try.ntmps13
  go_wp2
  all_goals (go_ret; exact ⟨⟨_, rfl⟩, rfl⟩)
theorem zzb4_yes (a c : ByteArray) (w : World) (h0 : a.size ≤ 262144) (h1 : c.size ≤ 262144) :
    Calls Try.prog 13 #[.string a, .string c] w fun e w' => e = .returned (.bool true) ∧ w' = w := by
  go_enter Try.func13, Try.ntmps13
  go_wp2
  go_ret
  exact ⟨rfl, rfl⟩

theorem inj_long (a c : ByteArray) (w : World) (h0 : a.size ≤ maxLen) (h1 : c.size ≤ maxLen) (h : 262144 < a.size ∨ 262144 < c.size) :
    Calls Try.prog 4 #[.string a, .string c] w fun e w' => e = .returned (.bool true) ∧ Below w.heap.size w w' := by
  have H := hidden (zzb4_any a c w h0 h1)
  unfold maxLen at h0 h1
  rcases Nat.lt_or_ge 262144 a.size with hl | hl
  · go_enter Try.func4, Try.ntmps4
    go_wp2_with (go_at_call 13; refine H.out.mono ?_; rintro e w' ⟨⟨b, rfl⟩, hw⟩; obtain rfl := hw.symm; cases b)
    all_goals (go_wp2; go_ret; exact ⟨rfl, Below.refl _ _⟩)
  · have hl1 : 262144 < c.size := by omega
    go_enter Try.func4, Try.ntmps4
    go_wp2_with (go_at_call 13; refine H.out.mono ?_; rintro e w' ⟨⟨b, rfl⟩, hw⟩; obtain rfl := hw.symm; cases b)
    all_goals (go_wp2; go_ret; exact ⟨rfl, Below.refl _ _⟩)

set_option maxHeartbeats 1000000 in
set_option maxRecDepth 100000 in
theorem inj_short (a c : ByteArray) (w : World) (h0 : a.size ≤ 262144) (h1 : c.size ≤ 262144) :
    Calls Try.prog 4 #[.string a, .string c] w fun e w' => e = .returned (.bool true) ∧ Below w.heap.size w w' := by
  have H := hidden (zzb4_yes a c w h0 h1)
  have Q := fun (s : ByteArray) (wx : World) (hs : s.size ≤ 1048576) => zzQuote_any s wx hs
  have z1 := qs_size a
  have z2 := qs_size c
  have l1 := spn_size a
  have l2 := spn_size c
  obtain ⟨qa, hqa⟩ : ∃ q, qs a = q := ⟨_, rfl⟩
  obtain ⟨qc, hqc⟩ : ∃ q, qs c = q := ⟨_, rfl⟩
  rw [hqa] at z1
  rw [hqc] at z2
  have Z1 := hidden z1
  have Z2 := hidden z2
  have Ea := hidden hqa
  have Ec := hidden hqc
  clear z1 z2 hqa hqc
  have Qa := hidden (fun wx => show Calls Try.prog 10 #[.string a] wx fun e w' => e = .returned (.string qa) ∧ Below wx.heap.size wx w' by rw [← Ea.out]; exact Q a wx (by omega))
  have Qc := hidden (fun wx => show Calls Try.prog 10 #[.string c] wx fun e w' => e = .returned (.string qc) ∧ Below wx.heap.size wx w' by rw [← Ec.out]; exact Q c wx (by omega))
  have Sa := hidden (fun wx => zzSpecials_any a wx (by omega))
  have Sc := hidden (fun wx => zzSpecials_any c wx (by omega))
  obtain ⟨sa, hsa⟩ : ∃ q, spn a.data.toList = q := ⟨_, rfl⟩
  obtain ⟨sc, hsc⟩ : ∃ q, spn c.data.toList = q := ⟨_, rfl⟩
  rw [hsa] at Sa Z1 l1
  rw [hsc] at Sc Z2 l2
  clear hsa hsc Q
  have y1 : (qa.size : Int) = (a.size : Int) + 2 + (sa : Int) := by have := Z1.out; omega
  have y2 : (qc.size : Int) = (c.size : Int) + 2 + (sc : Int) := by have := Z2.out; omega
  go_enter Try.func4, Try.ntmps4
  go_wp2_with fail
  refine H.out.mono ?_
  rintro e w' ⟨rfl, hw⟩
  obtain rfl := hw.symm
  go_wp2_with fail
  refine (Qa.out _).mono ?_
  rintro e w1 ⟨rfl, hb1⟩
  go_wp2_with fail
  refine (Qc.out _).mono ?_
  rintro e w2 ⟨rfl, hb2⟩
  go_wp2_with fail
  refine (Sa.out _).mono ?_
  rintro e w' ⟨rfl, hw⟩
  obtain rfl := hw.symm
  go_wp2_with fail
  refine (Sc.out _).mono ?_
  rintro e w' ⟨rfl, hw⟩
  obtain rfl := hw.symm
  have B := (hb1.trans (hb2.mono hb1.size))
  clear Qa Qc Sa Sc hb1 hb2
  by_cases hac : a = c
  · subst hac
    obtain rfl : qa = qc := Ea.out.symm.trans Ec.out
    go_wp2
    go_ret
    exact ⟨rfl, B⟩
  · have n1 := hidden (qs_no hac)
    have n2 := hidden (qs_no (fun h => hac h.symm))
    rw [Ea.out, Ec.out] at n1 n2
    have hz := Z1.out
    have hz2 := Z2.out
    have P1 := hidden (hasPrefix_no qa qc w2 (by unfold maxLen; omega) (by unfold maxLen; omega) n1.out)
    have P2 := hidden (hasPrefix_no qc qa w2 (by unfold maxLen; omega) (by unfold maxLen; omega) n2.out)
    have hne : (a.toList == c.toList) = false := by
      rw [beq_eq_false_iff_ne]
      intro h
      rw [Lib.toList_data, Lib.toList_data] at h
      exact hac (by rw [← Lib.mk_data a, ← Lib.mk_data c, h])
    clear hz hz2
    go_wp2_with fail
    refine P1.out.mono ?_
    rintro e w' ⟨rfl, hw⟩
    obtain rfl := hw.symm
    go_wp2_with fail
    refine P2.out.mono ?_
    rintro e w' ⟨rfl, hw⟩
    obtain rfl := hw.symm
    go_wp2
    go_ret
    exact ⟨rfl, B⟩
end Go.Proofs.Qxb6618278a
