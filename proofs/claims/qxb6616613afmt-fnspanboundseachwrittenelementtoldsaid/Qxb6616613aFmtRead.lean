/-
  readVarNumber and ReadHeader, on what was written.
-/
import Derived.Test.Qxb6616613aFmtClone
import Derived.Deep.LoopGhost
namespace Go.Proofs.Qxb6616613aFmt
open Go.ChangeShapes Go.WideShapes Go.ChangeAt Go.RowKit
set_option linter.unusedVariables false

/-- a number out of its bytes -/
def dec : List Int → Int → Int
  | [], v => v
  | c :: l, v => dec l (v * 256 + c)

set_option maxHeartbeats 400000 in
set_option maxRecDepth 100000 in
theorem rvn1 (b of len cap : Nat) (x : Int) (w : World) (hl : 1 ≤ len) (hc : w.cell? ⟨b, of, none⟩ = some (.int .u8 x)) (hx : 0 ≤ x) (hx2 : x < 253) (hlen : len ≤ 1000000000) :
    Calls Tryf.prog 25 #[.slice (some ⟨b, of, none⟩) len cap] w fun e w' => e = .returned (.tuple #[.int .u64 x, .int .i64 1, .nilIface]) ∧ w' = w := by
  go_enter Tryf.func25, Tryf.ntmps25
  go_wp2
  go_ret3
  exact ⟨rfl, rfl⟩

theorem dec_append (l : List Int) (c : Int) : ∀ v, dec (l ++ [c]) v = dec l v * 256 + c := by
  induction l with
  | nil => intro v; rfl
  | cons d l ih => intro v; exact ih _
theorem dec_step {l : List Int} {k : Nat} {c : Int} (h : l[k]? = some c) : dec (l.take (k + 1)) 0 = dec (l.take k) 0 * 256 + c := by
  obtain ⟨hk, hc⟩ := List.getElem?_eq_some_iff.1 h
  rw [List.take_succ_eq_append_getElem hk, dec_append, hc]
theorem dec_pow {l : List Int} (hby : ∀ (k : Nat) c, l[k]? = some c → 0 ≤ c ∧ c ≤ 255) : ∀ k, 0 ≤ dec (l.take k) 0 ∧ dec (l.take k) 0 < (256 : Int) ^ k
  | 0 => by simp [dec]
  | k + 1 => by
    have ih := dec_pow hby k
    cases h : l[k]? with
    | none =>
      have hlen : l.length ≤ k := List.getElem?_eq_none_iff.1 h
      rw [List.take_of_length_le (by omega), ← List.take_of_length_le hlen]
      rw [Int.pow_succ]
      omega
    | some c =>
      rw [dec_step h, Int.pow_succ]
      have := hby k c h
      omega
theorem dec_bound {l : List Int} (hby : ∀ (k : Nat) c, l[k]? = some c → 0 ≤ c ∧ c ≤ 255) (k : Nat) (hk : k ≤ 7) : 0 ≤ dec (l.take k) 0 ∧ dec (l.take k) 0 < 72057594037927936 := by
  have h := dec_pow hby k
  refine ⟨h.1, Int.lt_of_lt_of_le h.2 ?_⟩
  have h8 : k = 0 ∨ k = 1 ∨ k = 2 ∨ k = 3 ∨ k = 4 ∨ k = 5 ∨ k = 6 ∨ k = 7 := by omega
  rcases h8 with rfl | rfl | rfl | rfl | rfl | rfl | rfl | rfl <;> decide
theorem or_byte (y c : Int) (h1 : 0 ≤ y) (h2 : y < 72057594037927936) (h3 : 0 ≤ c) (h4 : c ≤ 255) : bits .or .u64 (y * 256) c = y * 256 + c := by
  rw [u64_or _ _ (by omega) (by omega) h3 (by omega)]
  obtain ⟨a, rfl⟩ : ∃ a : Nat, y = a := ⟨y.toNat, by omega⟩
  obtain ⟨d, rfl⟩ : ∃ d : Nat, c = d := ⟨c.toNat, by omega⟩
  have e1 : ((a : Int) * 256).toNat = 2 ^ 8 * a := by omega
  rw [e1, Int.toNat_natCast, ← Nat.two_pow_add_eq_or_of_lt (by omega)]
  omega

set_option maxHeartbeats 400000 in
set_option maxRecDepth 100000 in
theorem rvn2 (b of len cap : Nat) (x : Int) (l : List Int) (w : World) (hl : l.length = 2) (hd : dec l 0 = x) (hby : ∀ (k : Nat) c, l[k]? = some c → 0 ≤ c ∧ c ≤ 255) (hx : 253 ≤ x) (hle : 3 ≤ len) (hcap : len ≤ cap) (hc0 : w.cell? ⟨b, of, none⟩ = some (.int .u8 253)) (hc : ∀ (k : Nat) c, l[k]? = some c → w.cell? ⟨b, of + 1 + k, none⟩ = some (.int .u8 c)) (hlen : len ≤ 1000000000) :
    Calls Tryf.prog 25 #[.slice (some ⟨b, of, none⟩) len cap] w fun e w' => e = .returned (.tuple #[.int .u64 x, .int .i64 3, .nilIface]) ∧ w' = w := by
  have n1 : ¬ cap = 1 := by omega
  have t1 : ((len : Int) == 0) = false := beq_eq_false_iff_ne.2 (by omega)
  have t2 : decide ((len : Int) ≤ 2) = false := decide_eq_false (by omega)
  have HL := hidden hl
  have HD := hidden hd
  have HB := hidden hby
  have HC := hidden hc
  clear hl hd hby hc
  go_enter Tryf.func25, Tryf.ntmps25
  go_wp2
  go_loopg [7, 9, 37] 2 (fun q v c i wx => ∃ k : Nat, k ≤ 2 ∧ q = 2 - k ∧ i = .int .i64 k ∧ v = .int .u64 (dec (l.take k) 0) ∧ w = wx)
  case atStart => exact ⟨0, Nat.zero_le _, rfl, rfl, rfl, rfl⟩
  case round =>
    obtain ⟨k, hk, hq, rfl, rfl, rfl⟩ := hrel
    have HQ := hidden hq
    clear hq
    by_cases hlt : k < 2
    · obtain ⟨c, hcc⟩ : ∃ c, l[k]? = some c := ⟨l[k]'(by rw [HL.out]; exact hlt), List.getElem?_eq_getElem _⟩
      have hck := HC.out k c hcc
      obtain ⟨c1, c2⟩ := HB.out k c hcc
      have hbd := dec_bound HB.out k (by omega)
      have E := hidden (dec_step hcc)
      clear hcc
      obtain ⟨y, hy⟩ : ∃ y, dec (l.take k) 0 = y := ⟨_, rfl⟩
      rw [hy] at hbd E ⊢
      clear hy
      obtain ⟨y1, y2⟩ := hbd
      have hor := or_byte y c y1 y2 c1 c2
      go_wp2
      go_roundg (2 - (k + 1))
      case measure => have := HQ.out; omega
      case rel => exact ⟨k + 1, by omega, rfl, by go_num, by rw [E.out], rfl⟩
    · obtain rfl : k = 2 := by omega
      have e : dec (l.take 2) 0 = x := by rw [List.take_of_length_le (by rw [HL.out]; exact Nat.le_refl _)]; exact HD.out
      rw [e]
      clear e
      go_wp2
      go_ret3
      exact ⟨rfl, rfl⟩

set_option maxHeartbeats 400000 in
set_option maxRecDepth 100000 in
theorem rvn4 (b of len cap : Nat) (x : Int) (l : List Int) (w : World) (hl : l.length = 4) (hd : dec l 0 = x) (hby : ∀ (k : Nat) c, l[k]? = some c → 0 ≤ c ∧ c ≤ 255) (hx : 65536 ≤ x) (hle : 5 ≤ len) (hcap : len ≤ cap) (hc0 : w.cell? ⟨b, of, none⟩ = some (.int .u8 254)) (hc : ∀ (k : Nat) c, l[k]? = some c → w.cell? ⟨b, of + 1 + k, none⟩ = some (.int .u8 c)) (hlen : len ≤ 1000000000) :
    Calls Tryf.prog 25 #[.slice (some ⟨b, of, none⟩) len cap] w fun e w' => e = .returned (.tuple #[.int .u64 x, .int .i64 5, .nilIface]) ∧ w' = w := by
  have n1 : ¬ cap = 1 := by omega
  have t1 : ((len : Int) == 0) = false := beq_eq_false_iff_ne.2 (by omega)
  have t2 : decide ((len : Int) ≤ 4) = false := decide_eq_false (by omega)
  have HL := hidden hl
  have HD := hidden hd
  have HB := hidden hby
  have HC := hidden hc
  clear hl hd hby hc
  go_enter Tryf.func25, Tryf.ntmps25
  go_wp2
  go_loopg [7, 9, 37] 4 (fun q v c i wx => ∃ k : Nat, k ≤ 4 ∧ q = 4 - k ∧ i = .int .i64 k ∧ v = .int .u64 (dec (l.take k) 0) ∧ w = wx)
  case atStart => exact ⟨0, Nat.zero_le _, rfl, rfl, rfl, rfl⟩
  case round =>
    obtain ⟨k, hk, hq, rfl, rfl, rfl⟩ := hrel
    have HQ := hidden hq
    clear hq
    by_cases hlt : k < 4
    · obtain ⟨c, hcc⟩ : ∃ c, l[k]? = some c := ⟨l[k]'(by rw [HL.out]; exact hlt), List.getElem?_eq_getElem _⟩
      have hck := HC.out k c hcc
      obtain ⟨c1, c2⟩ := HB.out k c hcc
      have hbd := dec_bound HB.out k (by omega)
      have E := hidden (dec_step hcc)
      clear hcc
      obtain ⟨y, hy⟩ : ∃ y, dec (l.take k) 0 = y := ⟨_, rfl⟩
      rw [hy] at hbd E ⊢
      clear hy
      obtain ⟨y1, y2⟩ := hbd
      have hor := or_byte y c y1 y2 c1 c2
      go_wp2
      go_roundg (4 - (k + 1))
      case measure => have := HQ.out; omega
      case rel => exact ⟨k + 1, by omega, rfl, by go_num, by rw [E.out], rfl⟩
    · obtain rfl : k = 4 := by omega
      have e : dec (l.take 4) 0 = x := by rw [List.take_of_length_le (by rw [HL.out]; exact Nat.le_refl _)]; exact HD.out
      rw [e]
      clear e
      go_wp2
      go_ret3
      exact ⟨rfl, rfl⟩

set_option maxHeartbeats 400000 in
set_option maxRecDepth 100000 in
theorem rvn8 (b of len cap : Nat) (x : Int) (l : List Int) (w : World) (hl : l.length = 8) (hd : dec l 0 = x) (hby : ∀ (k : Nat) c, l[k]? = some c → 0 ≤ c ∧ c ≤ 255) (hx : 4294967296 ≤ x) (hle : 9 ≤ len) (hcap : len ≤ cap) (hc0 : w.cell? ⟨b, of, none⟩ = some (.int .u8 255)) (hc : ∀ (k : Nat) c, l[k]? = some c → w.cell? ⟨b, of + 1 + k, none⟩ = some (.int .u8 c)) (hlen : len ≤ 1000000000) :
    Calls Tryf.prog 25 #[.slice (some ⟨b, of, none⟩) len cap] w fun e w' => e = .returned (.tuple #[.int .u64 x, .int .i64 9, .nilIface]) ∧ w' = w := by
  have n1 : ¬ cap = 1 := by omega
  have t1 : ((len : Int) == 0) = false := beq_eq_false_iff_ne.2 (by omega)
  have t2 : decide ((len : Int) ≤ 8) = false := decide_eq_false (by omega)
  have HL := hidden hl
  have HD := hidden hd
  have HB := hidden hby
  have HC := hidden hc
  clear hl hd hby hc
  go_enter Tryf.func25, Tryf.ntmps25
  go_wp2
  go_loopg [7, 9, 37] 8 (fun q v c i wx => ∃ k : Nat, k ≤ 8 ∧ q = 8 - k ∧ i = .int .i64 k ∧ v = .int .u64 (dec (l.take k) 0) ∧ w = wx)
  case atStart => exact ⟨0, Nat.zero_le _, rfl, rfl, rfl, rfl⟩
  case round =>
    obtain ⟨k, hk, hq, rfl, rfl, rfl⟩ := hrel
    have HQ := hidden hq
    clear hq
    by_cases hlt : k < 8
    · obtain ⟨c, hcc⟩ : ∃ c, l[k]? = some c := ⟨l[k]'(by rw [HL.out]; exact hlt), List.getElem?_eq_getElem _⟩
      have hck := HC.out k c hcc
      obtain ⟨c1, c2⟩ := HB.out k c hcc
      have hbd := dec_bound HB.out k (by omega)
      have E := hidden (dec_step hcc)
      clear hcc
      obtain ⟨y, hy⟩ : ∃ y, dec (l.take k) 0 = y := ⟨_, rfl⟩
      rw [hy] at hbd E ⊢
      clear hy
      obtain ⟨y1, y2⟩ := hbd
      have hor := or_byte y c y1 y2 c1 c2
      go_wp2
      go_roundg (8 - (k + 1))
      case measure => have := HQ.out; omega
      case rel => exact ⟨k + 1, by omega, rfl, by go_num, by rw [E.out], rfl⟩
    · obtain rfl : k = 8 := by omega
      have e : dec (l.take 8) 0 = x := by rw [List.take_of_length_le (by rw [HL.out]; exact Nat.le_refl _)]; exact HD.out
      rw [e]
      clear e
      go_wp2
      go_ret3
      exact ⟨rfl, rfl⟩

theorem div_up (x d : Int) (hd : 0 ≤ d) : x / (d * 256) * 256 + x / d % 256 = x / d := by
  have h : x / (d * 256) = x / d / 256 := (Int.ediv_ediv_of_nonneg hd).symm
  rw [h]
  omega
theorem dec2 (x : Int) : dec [x / 256, x % 256] 0 = x := by simp only [dec]; omega
theorem dec4 (x : Int) : dec [x / 16777216, x / 65536 % 256, x / 256 % 256, x % 256] 0 = x := by
  simp only [dec]
  have h1 := div_up x 65536 (by omega)
  have h2 := div_up x 256 (by omega)
  have e1 : (65536 : Int) * 256 = 16777216 := by decide
  have e2 : (256 : Int) * 256 = 65536 := by decide
  rw [e1] at h1
  rw [e2] at h2
  generalize x / 16777216 = a at *
  generalize x / 65536 = b at *
  omega
theorem dec8 (x : Int) : dec [x / 72057594037927936, x / 281474976710656 % 256, x / 1099511627776 % 256, x / 4294967296 % 256, x / 16777216 % 256, x / 65536 % 256, x / 256 % 256, x % 256] 0 = x := by
  simp only [dec]
  have h1 := div_up x 281474976710656 (by omega)
  have h2 := div_up x 1099511627776 (by omega)
  have h3 := div_up x 4294967296 (by omega)
  have h4 := div_up x 16777216 (by omega)
  have h5 := div_up x 65536 (by omega)
  have h6 := div_up x 256 (by omega)
  have e1 : (281474976710656 : Int) * 256 = 72057594037927936 := by decide
  have e2 : (1099511627776 : Int) * 256 = 281474976710656 := by decide
  have e3 : (4294967296 : Int) * 256 = 1099511627776 := by decide
  have e4 : (16777216 : Int) * 256 = 4294967296 := by decide
  have e5 : (65536 : Int) * 256 = 16777216 := by decide
  have e6 : (256 : Int) * 256 = 65536 := by decide
  rw [e1] at h1
  rw [e2] at h2
  rw [e3] at h3
  rw [e4] at h4
  rw [e5] at h5
  rw [e6] at h6
  generalize x / 72057594037927936 = a1 at *
  generalize x / 281474976710656 = a2 at *
  generalize x / 1099511627776 = a3 at *
  generalize x / 4294967296 = a4 at *
  generalize x / 16777216 = a5 at *
  generalize x / 65536 = a6 at *
  omega

/-- the bytes X lie from ⟨b, of⟩ on -/
def Lies (w : World) (b of : Nat) (X : List Int) : Prop := ∀ (j : Nat) c, X[j]? = some c → w.cell? ⟨b, of + j, none⟩ = some (.int .u8 c)
theorem Lies.left {w : World} {b of : Nat} {X Y : List Int} (h : Lies w b of (X ++ Y)) : Lies w b of X := fun j c hj => h j c (by rw [List.getElem?_append_left (List.getElem?_eq_some_iff.1 hj).1]; exact hj)
theorem Lies.right {w : World} {b of : Nat} {X Y : List Int} (h : Lies w b of (X ++ Y)) : Lies w b (of + X.length) Y := fun j c hj => by
  rw [Nat.add_assoc]
  exact h (X.length + j) c (by rw [List.getElem?_append_right (by omega)]; simpa using hj)
theorem Lies.head {w : World} {b of : Nat} {c : Int} {X : List Int} (h : Lies w b of (c :: X)) : w.cell? ⟨b, of, none⟩ = some (.int .u8 c) := h 0 c rfl
theorem Lies.tail {w : World} {b of : Nat} {c : Int} {X : List Int} (h : Lies w b of (c :: X)) : ∀ (j : Nat) d, X[j]? = some d → w.cell? ⟨b, of + 1 + j, none⟩ = some (.int .u8 d) := fun j d hj => by
  have := h (j + 1) d (by simpa using hj)
  rwa [show of + (j + 1) = of + 1 + j by omega] at this

theorem all2 {P : Int → Prop} {a b : Int} (ha : P a) (hb : P b) : ∀ (k : Nat) c, [a, b][k]? = some c → P c := by
  intro k c h
  match k, h with
  | 0, h => simp at h; exact h ▸ ha
  | 1, h => simp at h; exact h ▸ hb

/-- readVarNumber, on a number's own form -/
theorem rvn_any (b of len cap : Nat) (x : Int) (w : World) (hx : 0 ≤ x) (hx2 : x ≤ 18446744073709551615) (hle : (enc x).length ≤ len) (hcap : len ≤ cap) (hc : Lies w b of (enc x)) (hlen : len ≤ 1000000000) :
    Calls Tryf.prog 25 #[.slice (some ⟨b, of, none⟩) len cap] w fun e w' => e = .returned (.tuple #[.int .u64 x, .int .i64 ((enc x).length : Nat), .nilIface]) ∧ w' = w := by
  have hall : ∀ l : List Int, (∀ c ∈ l, 0 ≤ c ∧ c ≤ 255) → ∀ (k : Nat) c, l[k]? = some c → 0 ≤ c ∧ c ≤ 255 := fun l h k c hk => h c (List.mem_of_getElem? hk)
  by_cases h1 : x < 253
  · have e1 : enc x = [x] := by unfold enc; rw [if_pos h1]
    rw [e1] at hle hc ⊢
    exact rvn1 b of len cap x w (by simpa using hle) hc.head hx h1 hlen
  · by_cases h2 : x ≤ 65535
    · have e1 : enc x = [253, x / 256, x % 256] := by unfold enc; rw [if_neg h1, if_pos h2]
      rw [e1] at hle hc ⊢
      exact rvn2 b of len cap x [x / 256, x % 256] w rfl (dec2 x) (hall _ (by intro c hm; simp at hm; omega)) (by omega) (by simpa using hle) hcap hc.head hc.tail hlen
    · by_cases h3 : x ≤ 4294967295
      · have e1 : enc x = [254, x / 16777216, x / 65536 % 256, x / 256 % 256, x % 256] := by unfold enc; rw [if_neg h1, if_neg h2, if_pos h3]
        rw [e1] at hle hc ⊢
        exact rvn4 b of len cap x [x / 16777216, x / 65536 % 256, x / 256 % 256, x % 256] w rfl (dec4 x) (hall _ (by intro c hm; simp at hm; omega)) (by omega) (by simpa using hle) hcap hc.head hc.tail hlen
      · have e1 : enc x = [255, x / 72057594037927936, x / 281474976710656 % 256, x / 1099511627776 % 256, x / 4294967296 % 256, x / 16777216 % 256, x / 65536 % 256, x / 256 % 256, x % 256] := by unfold enc; rw [if_neg h1, if_neg h2, if_neg h3]
        rw [e1] at hle hc ⊢
        exact rvn8 b of len cap x [x / 72057594037927936, x / 281474976710656 % 256, x / 1099511627776 % 256, x / 4294967296 % 256, x / 16777216 % 256, x / 65536 % 256, x / 256 % 256, x % 256] w rfl (dec8 x) (hall _ (by intro c hm; simp at hm; omega)) (by omega) (by simpa using hle) hcap hc.head hc.tail hlen

set_option maxHeartbeats 400000 in
set_option maxRecDepth 100000 in
/-- ReadHeader, on a header with a good type -/
theorem readHeader_ok (b of len cap : Nat) (t l : Int) (w : World) (ht : 1 ≤ t) (ht2 : t ≤ 4294967295) (hl : 0 ≤ l) (hl2 : l ≤ 18446744073709551615) (hle : (hdr t l).length ≤ len) (hcap : len ≤ cap) (hc : Lies w b of (hdr t l)) (hlen : len ≤ 1000000000) :
    Calls Tryf.prog 15 #[.slice (some ⟨b, of, none⟩) len cap] w fun e w' => e = .returned (.tuple #[.int .u64 t, .int .u64 l, .int .i64 ((hdr t l).length : Nat), .nilIface]) ∧ w' = w := by
  have e1 := enc_len t
  have e2 := enc_len l
  have hsum : (hdr t l).length = (enc t).length + (enc l).length := by simp [hdr]
  have C1 := hidden (rvn_any b of len cap t w (by omega) (by omega) (by omega) hcap hc.left hlen)
  have C2 := hidden (rvn_any b (of + (enc t).length) (len - (enc t).length) (cap - (enc t).length) l w hl hl2 (by omega) (by omega) hc.right (by omega))
  rw [hsum] at hle ⊢
  clear hsum hc
  obtain ⟨n1, hn1⟩ : ∃ n, (enc t).length = n := ⟨_, rfl⟩
  obtain ⟨n2, hn2⟩ : ∃ n, (enc l).length = n := ⟨_, rfl⟩
  rw [hn1] at C1 C2 hle e1 ⊢
  rw [hn2] at C2 hle e2 ⊢
  clear hn1 hn2
  have k1 : ¬ cap = n1 := by omega
  have k2 : n1 ≤ len := by omega
  have k3 : (t == 0) = false := beq_eq_false_iff_ne.2 (by omega)
  go_enter Tryf.func15, Tryf.ntmps15
  go_wp2_with fail
  refine C1.out.mono ?_
  rintro e w' ⟨rfl, hw⟩
  obtain rfl := hw.symm
  go_wp2_with fail
  refine C2.out.mono ?_
  rintro e w' ⟨rfl, hw⟩
  obtain rfl := hw.symm
  go_wp2
  exact bodyPost_ret (v := .tuple #[.int .u64 t, .int .u64 l, .int .i64 ((n1 + n2 : Nat) : Int), .nilIface]) (by simp [results, Tryf.results15, go_sem]) rfl ⟨rfl, rfl⟩
end Go.Proofs.Qxb6616613aFmt
