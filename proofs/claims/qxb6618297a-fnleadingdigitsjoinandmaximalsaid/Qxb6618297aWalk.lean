/-
  The leading digits: the plain laws, and the walks.
-/
import Derived.Test.Qxb6618297aRows
import Derived.WalkKit
import Derived.ProofKit
import Derived.WalkSpells
import Derived.Below
import Derived.Lib.Strings
import Derived.Outline
import Derived.Deep.LoopGhost
namespace Go.Proofs.Qxb6618297a
open Go.ChangeShapes Go.WideShapes Go.ChangeAt Go.RowKit
set_option linter.unusedVariables false

theorem hidden {p : Prop} (h : p) : Hid p := h
theorem ret_bool {a b : Bool} (h : a = b) : Ending.returned (.bool a) = .returned (.bool b) := by rw [h]

/-- an ASCII digit -/
def dg (c : UInt8) : Bool := decide (48 ≤ (c.toNat : Int)) && decide ((c.toNat : Int) ≤ 57)
theorem dg_yes {c : UInt8} (h : dg c = true) : 48 ≤ (c.toNat : Int) ∧ (c.toNat : Int) ≤ 57 := by simpa [dg] using h
theorem dg_no {c : UInt8} (h : dg c = false) : (c.toNat : Int) < 48 ∨ 57 < (c.toNat : Int) := by
  unfold dg at h
  simp at h
  omega

/-- the leading digits, as Go's string -/
def ld (s : ByteArray) : ByteArray := ⟨(s.data.toList.takeWhile dg).toArray⟩
theorem ld_data (s : ByteArray) : (ld s).data.toList = s.data.toList.takeWhile dg := by simp [ld]
theorem ba_ext {a b : ByteArray} (h : a.data.toList = b.data.toList) : a = b := by rw [← Lib.mk_data a, ← Lib.mk_data b, h]
theorem byteAt (s : ByteArray) (i : Nat) (h : i < s.size) : s.data.toList[i]? = some s[i] := by
  rw [List.getElem?_eq_getElem (by simpa using h)]; rfl

theorem tw_len (l : List UInt8) : (l.takeWhile dg).length ≤ l.length := (List.takeWhile_prefix (p := dg)).length_le
theorem tw_take (l : List UInt8) : l.take (l.takeWhile dg).length = l.takeWhile dg := (List.prefix_iff_eq_take.1 (List.takeWhile_prefix (p := dg))).symm
theorem tw_mem : ∀ (l : List UInt8) c, c ∈ l.takeWhile dg → dg c = true
  | [], c, h => by simp at h
  | x :: l, c, h => by
    by_cases hx : dg x = true
    · rw [List.takeWhile_cons_of_pos hx] at h
      rcases List.mem_cons.1 h with e | e
      · rw [e]; exact hx
      · exact tw_mem l c e
    · rw [List.takeWhile_cons_of_neg hx] at h; cases h
theorem tw_all (l : List UInt8) (i : Nat) (c : UInt8) (h : (l.takeWhile dg)[i]? = some c) : dg c = true := tw_mem l c (List.mem_of_getElem? h)
theorem tw_stop : ∀ (l : List UInt8) c, l[(l.takeWhile dg).length]? = some c → dg c = false
  | [], c, h => by simp at h
  | x :: l, c, h => by
    by_cases hx : dg x = true
    · rw [List.takeWhile_cons_of_pos hx] at h
      exact tw_stop l c (by simpa using h)
    · rw [List.takeWhile_cons_of_neg hx] at h
      simp at h
      rw [← h]; simpa using hx
/-- k digits, and then none: that is all of them -/
theorem tw_eq (l : List UInt8) (k : Nat) (h1 : ∀ (i : Nat) c, i < k → l[i]? = some c → dg c = true) (hk : k ≤ l.length) (h2 : ∀ c, l[k]? = some c → dg c = false) : l.takeWhile dg = l.take k := by
  induction l generalizing k with
  | nil => simp
  | cons x l ih =>
    cases k with
    | zero =>
      have := h2 x rfl
      rw [List.takeWhile_cons_of_neg (by simp [this])]; rfl
    | succ k =>
      have hx := h1 0 x (by omega) rfl
      rw [List.takeWhile_cons_of_pos hx, List.take_succ_cons]
      rw [ih k (fun i c hi hc => h1 (i + 1) c (by omega) (by simpa using hc)) (by simpa using hk) (fun c hc => h2 c (by simpa using hc))]

theorem tw_join_all (a b : List UInt8) (h : a.takeWhile dg = a) : (a ++ b).takeWhile dg = a ++ b.takeWhile dg := by
  induction a with
  | nil => rfl
  | cons x a ih =>
    by_cases hx : dg x = true
    · rw [List.takeWhile_cons_of_pos hx] at h
      rw [List.cons_append, List.takeWhile_cons_of_pos hx, ih (by simpa using h)]; rfl
    · rw [List.takeWhile_cons_of_neg hx] at h; cases h
theorem tw_join_part (a b : List UInt8) (h : a.takeWhile dg ≠ a) : (a ++ b).takeWhile dg = a.takeWhile dg := by
  induction a with
  | nil => exact absurd rfl h
  | cons x a ih =>
    by_cases hx : dg x = true
    · rw [List.takeWhile_cons_of_pos hx] at h
      rw [List.cons_append, List.takeWhile_cons_of_pos hx, List.takeWhile_cons_of_pos hx, ih (fun e => h (by rw [e]))]
    · rw [List.cons_append, List.takeWhile_cons_of_neg hx, List.takeWhile_cons_of_neg hx]

theorem ld_join_all {a b : ByteArray} (h : ld a = a) : ld (a ++ b) = a ++ ld b := by
  have h' : a.data.toList.takeWhile dg = a.data.toList := by rw [← ld_data, h]
  apply ba_ext
  rw [ld_data]
  have e : (a ++ b).data.toList = a.data.toList ++ b.data.toList := by simp
  have e2 : (a ++ ld b).data.toList = a.data.toList ++ (ld b).data.toList := by simp
  rw [e, e2, ld_data, tw_join_all _ _ h']
theorem ld_join_part {a b : ByteArray} (h : ld a ≠ a) : ld (a ++ b) = ld a := by
  have h' : a.data.toList.takeWhile dg ≠ a.data.toList := fun e => h (ba_ext (by rw [ld_data, e]))
  apply ba_ext
  have e : (a ++ b).data.toList = a.data.toList ++ b.data.toList := by simp
  rw [ld_data, ld_data, e, tw_join_part _ _ h']
theorem ld_size (s : ByteArray) : (ld s).size ≤ s.size := by
  rw [Lib.size_eq, Lib.size_eq s, ld_data]; exact tw_len _
theorem ld_cut (s : ByteArray) : s.extract 0 (ld s).size = ld s := by
  apply ba_ext
  rw [Lib.extract_data, ld_data, Lib.size_eq (ld s), ld_data]
  simp only [List.drop_zero, Nat.sub_zero]
  exact tw_take _
theorem ld_digit (s : ByteArray) (i : Nat) (h : i < (ld s).size) : dg (ld s)[i] = true := by
  have := byteAt (ld s) i h
  rw [ld_data] at this
  exact tw_all _ _ _ this
theorem ld_stop (s : ByteArray) (h : (ld s).size < s.size) : dg s[(ld s).size] = false := by
  have e : (ld s).size = (s.data.toList.takeWhile dg).length := by rw [Lib.size_eq, ld_data]
  exact tw_stop _ _ ((congrArg (fun k => s.data.toList[k]?) e).symm.trans (byteAt s _ h))

theorem isDigit_any (c : UInt8) (w : World) : Calls Try.prog 6 #[.int .u8 (c.toNat : Int)] w fun e w' => e = .returned (.bool (dg c)) ∧ w' = w := by
  cases h : dg c with
  | true =>
    obtain ⟨h1, h2⟩ := dg_yes h
    go_enter Try.func6, Try.ntmps6
    go_wp2
    go_ret
    exact ⟨rfl, rfl⟩
  | false =>
    rcases dg_no h with h1 | h1
    · go_enter Try.func6, Try.ntmps6
      go_wp2
      go_ret
      exact ⟨rfl, rfl⟩
    · have h2 : 48 ≤ (c.toNat : Int) := by omega
      go_enter Try.func6, Try.ntmps6
      go_wp2
      go_ret
      exact ⟨ret_bool (decide_eq_false (by omega)), rfl⟩

/-- k leading digits, and what comes next is none: the string that is cut -/
theorem cut_eq (s : ByteArray) (k : Nat) (hk : k ≤ s.size) (h1 : ∀ i (h : i < s.size), i < k → dg s[i] = true) (h2 : ∀ h : k < s.size, dg s[k] = false) : s.extract 0 k = ld s := by
  apply ba_ext
  rw [Lib.extract_data, ld_data]
  simp only [List.drop_zero, Nat.sub_zero]
  have hsz := Lib.size_eq s
  refine (tw_eq _ k (fun i c hi hc => ?_) (by omega) (fun c hc => ?_)).symm
  · have hi' : i < s.size := by omega
    rw [byteAt s i hi'] at hc
    exact Option.some.inj hc ▸ h1 i hi' hi
  · have hk' : k < s.size := by
      have := (List.getElem?_eq_some_iff.1 hc).1
      omega
    rw [byteAt s k hk'] at hc
    exact Option.some.inj hc ▸ h2 hk'

set_option maxHeartbeats 400000 in
set_option maxRecDepth 100000 in
theorem leading_any (s : ByteArray) (w : World) (hs : s.size ≤ 4194304) :
    Calls Try.prog 7 #[.string s] w fun e w' => e = .returned (.string (ld s)) ∧ w' = w := by
  go_enter Try.func7, Try.ntmps7
  go_wp2
  go_loop [3] (fun i => ∃ k : Nat, k ≤ s.size ∧ i = .int .i64 k ∧ ∀ i (h : i < s.size), i < k → dg s[i] = true) (fun i => s.size - (intOf i).toNat)
  case atStart => exact ⟨0, Nat.zero_le _, rfl, fun i h hi => absurd hi (Nat.not_lt_zero _)⟩
  case round =>
    obtain ⟨k, hk, rfl, hall⟩ := hrel
    have HA := hidden hall
    clear hall
    by_cases hlt : k < s.size
    · cases hd : dg s[k] with
      | true =>
        obtain ⟨h1, h2⟩ := dg_yes hd
        have HD := hidden hd
        clear hd
        go_wp2
        go_round
        case rel => exact ⟨k + 1, by omega, by go_num, fun i h hi => by
          by_cases e : i = k
          · subst e; exact HD.out
          · exact HA.out i h (by omega)⟩
        case measure => simp [intOf]; omega
      | false =>
        have E := hidden (cut_eq s k hk HA.out (fun _ => hd))
        rcases dg_no hd with h1 | h1
        · clear hd
          go_wp2
          go_ret
          exact ⟨by rw [← E.out]; rfl, rfl⟩
        · have h2 : 48 ≤ (s[k].toNat : Int) := by omega
          clear hd
          go_wp2
          go_ret
          exact ⟨by rw [← E.out]; rfl, rfl⟩
    · have E := hidden (cut_eq s k hk HA.out (fun h => absurd h hlt))
      go_wp2
      go_ret
      exact ⟨by rw [← E.out]; rfl, rfl⟩
set_option maxHeartbeats 400000 in
theorem zzleading_any (s : ByteArray) (w : World) (hs : s.size ≤ 4194304) :
    Calls Try.prog 5 #[.string s] w fun e w' => e = .returned (.string (ld s)) ∧ w' = w := by
  have H := hidden (leading_any s w hs)
  go_enter Try.func5, Try.ntmps5
  go_wp2_with fail
  refine H.out.mono ?_
  rintro e w' ⟨rfl, hw⟩
  obtain rfl := hw.symm
  go_wp2
  go_ret
  exact ⟨rfl, rfl⟩

theorem zzb_any (a b : ByteArray) (w : World) (h0 : a.size ≤ maxLen) (h1 : b.size ≤ maxLen) :
    Calls Try.prog 4 #[.string a, .string b] w fun e w' => (∃ b, e = .returned (.bool b)) ∧ w' = w := by
  unfold maxLen at h0 h1
  go_enter Try.func4, Try.ntmps4
  go_wp2
  all_goals (go_ret; exact ⟨⟨_, rfl⟩, rfl⟩)
theorem zzb_yes (a b : ByteArray) (w : World) (h : a.size + b.size ≤ 1048576) :
    Calls Try.prog 4 #[.string a, .string b] w fun e w' => e = .returned (.bool true) ∧ w' = w := by
  go_enter Try.func4, Try.ntmps4
  go_wp2
  go_ret
  exact ⟨rfl, rfl⟩

theorem main_long (a b : ByteArray) (w : World) (h0 : a.size ≤ maxLen) (h1 : b.size ≤ maxLen) (h : 1048576 < a.size + b.size) :
    Calls Try.prog 3 #[.string a, .string b] w fun e w' => e = .returned (.bool true) ∧ w' = w := by
  have H := hidden (zzb_any a b w h0 h1)
  unfold maxLen at h0 h1
  rcases Nat.lt_or_ge 1048576 a.size with hl | hl
  · go_enter Try.func3, Try.ntmps3
    go_wp2_with (go_at_call 4; refine H.out.mono ?_; rintro e w' ⟨⟨b, rfl⟩, hw⟩; obtain rfl := hw.symm; cases b)
    all_goals (go_wp2; go_ret; exact ⟨rfl, rfl⟩)
  · go_enter Try.func3, Try.ntmps3
    go_wp2_with (go_at_call 4; refine H.out.mono ?_; rintro e w' ⟨⟨b, rfl⟩, hw⟩; obtain rfl := hw.symm; cases b)
    all_goals (go_wp2; go_ret; exact ⟨rfl, rfl⟩)

theorem beq_list {a b : ByteArray} (h : a = b) : (a.toList == b.toList) = true := by rw [h]; exact beq_self_eq_true _
theorem beq_list_no {a b : ByteArray} (h : a ≠ b) : (a.toList == b.toList) = false := by
  rw [beq_eq_false_iff_ne]
  intro e
  rw [Lib.toList_data, Lib.toList_data] at e
  exact h (ba_ext e)

/-- what r is, told plainly -/
structure Cut (s r : ByteArray) : Prop where
  size : r.size ≤ s.size
  cut : s.extract 0 r.size = r
  digit : ∀ i (h : i < r.size), dg r[i] = true
  stop : ∀ h : r.size < s.size, dg s[r.size] = false
theorem ld_is (s : ByteArray) : Cut s (ld s) := ⟨ld_size s, ld_cut s, ld_digit s, ld_stop s⟩

set_option maxHeartbeats 1000000 in
set_option maxRecDepth 100000 in
theorem main_short (a b : ByteArray) (w : World) (h : a.size + b.size ≤ 1048576) :
    Calls Try.prog 3 #[.string a, .string b] w fun e w' => e = .returned (.bool true) ∧ w' = w := by
  have Z := hidden (zzb_yes a b w h)
  have hsum : (a ++ b).size = a.size + b.size := ByteArray.size_append
  have C1 := hidden (zzleading_any (a ++ b) w (by omega))
  have C2 := hidden (zzleading_any a w (by omega))
  have C3 := hidden (zzleading_any b w (by omega))
  have K := ld_is (a ++ b)
  have J1 := hidden (fun h => ld_join_all (a := a) (b := b) h)
  have J2 := hidden (fun h => ld_join_part (a := a) (b := b) h)
  have lb := ld_size b
  have HS := hidden hsum
  obtain ⟨s, hs⟩ : ∃ s, a ++ b = s := ⟨_, rfl⟩
  rw [hs] at C1 K J1 J2 hsum HS
  obtain ⟨r, hr⟩ : ∃ r, ld s = r := ⟨_, rfl⟩
  obtain ⟨ra, hra⟩ : ∃ r, ld a = r := ⟨_, rfl⟩
  obtain ⟨rb, hrb⟩ : ∃ r, ld b = r := ⟨_, rfl⟩
  rw [hr] at C1 K J1 J2
  rw [hra] at C2 J1 J2
  rw [hrb] at C3 J1 lb
  have k1 := K.size
  have k2 := hidden K.cut
  have k3 := hidden K.digit
  have k4 := hidden K.stop
  have hsz : s.size ≤ 1048576 := by omega
  clear hr hra hrb K hsum
  go_enter Try.func3, Try.ntmps3
  go_wp2_with fail
  refine Z.out.mono ?_
  rintro e w' ⟨rfl, hw⟩
  obtain rfl := hw.symm
  go_wp2_with fail
  refine C1.out.mono ?_
  rintro e w' ⟨rfl, hw⟩
  obtain rfl := hw.symm
  go_wp2_with fail
  refine C2.out.mono ?_
  rintro e w' ⟨rfl, hw⟩
  obtain rfl := hw.symm
  go_wp2_with fail
  refine C3.out.mono ?_
  rintro e w' ⟨rfl, hw⟩
  obtain rfl := hw.symm
  clear Z C1 C2 C3
  have kc := k2.out
  have kd : decide (s.size < r.size) = false := decide_eq_false (by omega)
  have kd2 : decide ((s.size : Int) < (r.size : Int)) = false := decide_eq_false (by omega)
  by_cases hra : ra = a
  · have e3 := J1.out hra
    have hb := beq_list hra
    have e4 : a ++ rb = r := e3.symm
    have hsr : a.size + rb.size ≤ 9223372036854775807 := by have := HS.out; omega
    clear e3 hra J1 J2
    go_wp2_with fail
    go_loopg [9] r.size (fun q i wx => ∃ k : Nat, k ≤ r.size ∧ q = r.size - k ∧ i = .int .i64 k ∧ w = wx)
    case atStart => exact ⟨0, Nat.zero_le _, rfl, rfl, rfl⟩
    case round =>
      obtain ⟨k, hk, hgk, rfl, rfl⟩ := hrel
      have HG := hidden hgk
      clear hgk
      by_cases hlt : k < r.size
      · have D := hidden (isDigit_any r[k] w)
        rw [k3.out k hlt] at D
        go_wp2_with fail
        refine D.out.mono ?_
        rintro e w' ⟨rfl, hw⟩
        obtain rfl := hw.symm
        go_wp2
        go_roundg (r.size - (k + 1))
        case measure => have := HG.out; omega
        case rel => exact ⟨k + 1, by omega, rfl, by go_num, rfl⟩
      · by_cases hst : r.size < s.size
        · have D := hidden (isDigit_any s[r.size] w)
          rw [k4.out hst] at D
          go_wp2_with fail
          refine D.out.mono ?_
          rintro e w' ⟨rfl, hw⟩
          obtain rfl := hw.symm
          go_wp2
          go_ret
          exact ⟨rfl, rfl⟩
        · go_wp2
          go_ret
          exact ⟨rfl, rfl⟩
  · have hb := beq_list_no hra
    obtain rfl : r = ra := J2.out hra
    clear hra J1 J2
    go_wp2_with fail
    go_loopg [9] r.size (fun q i wx => ∃ k : Nat, k ≤ r.size ∧ q = r.size - k ∧ i = .int .i64 k ∧ w = wx)
    case atStart => exact ⟨0, Nat.zero_le _, rfl, rfl, rfl⟩
    case round =>
      obtain ⟨k, hk, hgk, rfl, rfl⟩ := hrel
      have HG := hidden hgk
      clear hgk
      by_cases hlt : k < r.size
      · have D := hidden (isDigit_any r[k] w)
        rw [k3.out k hlt] at D
        go_wp2_with fail
        refine D.out.mono ?_
        rintro e w' ⟨rfl, hw⟩
        obtain rfl := hw.symm
        go_wp2
        go_roundg (r.size - (k + 1))
        case measure => have := HG.out; omega
        case rel => exact ⟨k + 1, by omega, rfl, by go_num, rfl⟩
      · by_cases hst : r.size < s.size
        · have D := hidden (isDigit_any s[r.size] w)
          rw [k4.out hst] at D
          go_wp2_with fail
          refine D.out.mono ?_
          rintro e w' ⟨rfl, hw⟩
          obtain rfl := hw.symm
          go_wp2
          go_ret
          exact ⟨rfl, rfl⟩
        · go_wp2
          go_ret
          exact ⟨rfl, rfl⟩

end Go.Proofs.Qxb6618297a
