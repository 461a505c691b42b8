/-
  Fields: NewFields, Span, take.
-/
import Derived.Test.Qxb6616613aFmtLaw4
import Derived.Deep.RegionWith
namespace Go.Proofs.Qxb6616613aFmt
open Go.ChangeShapes Go.WideShapes Go.ChangeAt Go.RowKit
set_option linter.unusedVariables false

/-- the thirteen cells of a Fields -/
def FC (v : Value) (a r b l0 l1 l2 l3 : Int) (m : Value) : Array Value :=
  #[v, .int .i64 a, .int .i64 r, .int .i64 b, .slice none 0 0, .int .u64 l0, .int .u64 l1, .int .u64 l2, .int .u64 l3, m, .slice none 0 0, .nilIface, .func (.func 18) #[] #[]]

theorem newUnder (a : Option Addr) (n c : Nat) (w : World) : Calls Tryf.prog 17 #[.slice a n c, .func (.func 18) #[] #[]] w fun e w' => e = .returned (.pointer (some ⟨w.heap.size, 0, none⟩)) ∧ w' = w.alloc (.cells (FC (.slice a n c) 0 0 0 0 0 0 0 (.slice none 0 0)) 51) := by
  go_enter Tryf.func17, Tryf.ntmps17
  go_wp2
  go_ret
  exact ⟨rfl, rfl⟩
theorem newFields_any (a : Option Addr) (n c : Nat) (w : World) : Calls Tryf.prog 8 #[.slice a n c] w fun e w' => e = .returned (.pointer (some ⟨w.heap.size, 0, none⟩)) ∧ w' = w.alloc (.cells (FC (.slice a n c) 0 0 0 0 0 0 0 (.slice none 0 0)) 51) := by
  have H := hidden (newUnder a n c w)
  go_enter Tryf.func8, Tryf.ntmps8
  go_wp2_with fail
  refine H.out.mono ?_
  rintro e w' ⟨rfl, hw⟩
  obtain rfl := hw.symm
  go_wp2
  go_ret
  exact ⟨rfl, rfl⟩
theorem span_any (fb : Nat) (a b : Int) (w : World) (h1 : w.cell? ⟨fb, 1, none⟩ = some (.int .i64 a)) (h3 : w.cell? ⟨fb, 3, none⟩ = some (.int .i64 b)) :
    Calls Tryf.prog 11 #[.pointer (some ⟨fb, 0, none⟩)] w fun e w' => e = .returned (.tuple #[.int .i64 b, .int .i64 a]) ∧ ∃ d, w' = w.drewN d := by
  go_enter Tryf.func11, Tryf.ntmps11
  go_wp2_with fail
  go_quiet (fail)
  go_wp2
  exact bodyPost_ret (v := .tuple #[.int .i64 b, .int .i64 a]) (by simp [results, Tryf.results11, go_sem]) rfl ⟨rfl, nq, rfl⟩
theorem take_any (fb : Nat) (a b en : Int) (w : World) (h1 : w.cell? ⟨fb, 1, none⟩ = some (.int .i64 a)) (h2 : w.cell? ⟨fb, 2, none⟩ = some (.int .i64 a)) (h3 : w.cell? ⟨fb, 3, none⟩ = some (.int .i64 b)) (hf : ∀ k, w.frozen? ⟨fb, k, none⟩ = false) (ha : a < en) (ha0 : 0 ≤ a) (hen : en ≤ 1000000000):
    Calls Tryf.prog 22 #[.pointer (some ⟨fb, 0, none⟩), .int .i64 a, .int .i64 en] w fun e w' => e = .returned (.tuple #[]) ∧ w' = ((w.setCell ⟨fb, 3, none⟩ (.int .i64 a)).setCell ⟨fb, 1, none⟩ (.int .i64 en)).setCell ⟨fb, 2, none⟩ (.int .i64 en) := by
  have f1 := hf 1
  have f2 := hf 2
  have f3 := hf 3
  go_enter Tryf.func22, Tryf.ntmps22
  go_wp2
  exact bodyPost_end (v := .tuple #[]) (by simp [results, Tryf.results22, go_sem]) rfl ⟨rfl, rfl⟩
/-- what ReadElement hands back of an element that stands whole -/
def Elem (b of len : Nat) (t : Int) (hn ln : Nat) (w : World) (e : Ending) (w' : World) : Prop :=
  ∃ a1 a2 rl c2, e = .returned (.tuple #[.agg #[.int .u64 t, .slice a1 ln ln], .slice a2 rl c2, .nilIface]) ∧ hn + ln + rl = len ∧ (0 < ln → a1 = some ⟨b, of + hn, none⟩) ∧ w' = (w.alloc (.cells #[.int .u64 t, .slice a1 ln ln] 55)).drew

set_option maxHeartbeats 400000 in
theorem re_a (b of len cap : Nat) (t : Int) (hn ln : Nat) (w : World) (hle : hn + ln ≤ len) (hcap : len ≤ cap) (hlen : len ≤ 1000000000) (h2 : 2 ≤ hn) (k1 : ¬ cap = hn) (k3 : ¬ cap - hn = ln)
   (H : Hid (Calls Tryf.prog 15 #[.slice (some ⟨b, of, none⟩) len cap] (w.alloc (.cells #[.int .u64 0, .slice none 0 0] 55)) fun e w' => e = .returned (.tuple #[.int .u64 t, .int .u64 ln, .int .i64 (hn : Int), .nilIface]) ∧ w' = (w.alloc (.cells #[.int .u64 0, .slice none 0 0] 55)))) :
    Calls Tryf.prog 21 #[.slice (some ⟨b, of, none⟩) len cap] w fun e w' => Elem b of len t hn ln w e w' := by
  have k2 : hn ≤ len := by omega
  go_enter Tryf.func21, Tryf.ntmps21
  go_wp2_with fail
  refine H.out.mono ?_
  rintro e w' ⟨rfl, hw⟩
  obtain rfl := hw.symm
  go_wp2_with fail
  go_region
  go_wp2
  exact bodyPost_ret (v := .tuple #[.agg #[.int .u64 t, .slice (some ⟨b, of + hn, none⟩) ln ln], .slice (some ⟨b, of + hn + ln, none⟩) (len - hn - ln) (cap - hn - ln), .nilIface]) (by simp [results, Tryf.results21, go_sem]) rfl ⟨_, _, _, _, rfl, by omega, (fun h => by first | rfl | omega), rfl⟩
set_option maxHeartbeats 400000 in
theorem re_b (b of len cap : Nat) (t : Int) (hn ln : Nat) (w : World) (hle : hn + ln ≤ len) (hcap : len ≤ cap) (hlen : len ≤ 1000000000) (h2 : 2 ≤ hn) (k1 : ¬ cap = hn) (k3 : cap - hn = ln)
   (H : Hid (Calls Tryf.prog 15 #[.slice (some ⟨b, of, none⟩) len cap] (w.alloc (.cells #[.int .u64 0, .slice none 0 0] 55)) fun e w' => e = .returned (.tuple #[.int .u64 t, .int .u64 ln, .int .i64 (hn : Int), .nilIface]) ∧ w' = (w.alloc (.cells #[.int .u64 0, .slice none 0 0] 55)))) :
    Calls Tryf.prog 21 #[.slice (some ⟨b, of, none⟩) len cap] w fun e w' => Elem b of len t hn ln w e w' := by
  obtain rfl : cap = len := by omega
  have k2 : hn ≤ cap := by omega
  go_enter Tryf.func21, Tryf.ntmps21
  go_wp2_with fail
  refine H.out.mono ?_
  rintro e w' ⟨rfl, hw⟩
  obtain rfl := hw.symm
  go_wp2_with fail
  go_region
  go_wp2
  exact bodyPost_ret (v := .tuple #[.agg #[.int .u64 t, .slice (some ⟨b, of + hn, none⟩) ln ln], .slice (some ⟨b, of + hn, none⟩) (0) (0), .nilIface]) (by simp [results, Tryf.results21, go_sem]) rfl ⟨_, _, _, _, rfl, by omega, (fun h => by first | rfl | omega), rfl⟩
set_option maxHeartbeats 400000 in
theorem re_c (b of len cap : Nat) (t : Int) (hn ln : Nat) (w : World) (hle : hn + ln ≤ len) (hcap : len ≤ cap) (hlen : len ≤ 1000000000) (h2 : 2 ≤ hn) (k1 : cap = hn)
   (H : Hid (Calls Tryf.prog 15 #[.slice (some ⟨b, of, none⟩) len cap] (w.alloc (.cells #[.int .u64 0, .slice none 0 0] 55)) fun e w' => e = .returned (.tuple #[.int .u64 t, .int .u64 ln, .int .i64 (hn : Int), .nilIface]) ∧ w' = (w.alloc (.cells #[.int .u64 0, .slice none 0 0] 55)))) :
    Calls Tryf.prog 21 #[.slice (some ⟨b, of, none⟩) len cap] w fun e w' => Elem b of len t hn ln w e w' := by
  obtain rfl : ln = 0 := by omega
  obtain rfl : hn = len := by omega
  subst k1
  go_enter Tryf.func21, Tryf.ntmps21
  go_wp2_with fail
  refine H.out.mono ?_
  rintro e w' ⟨rfl, hw⟩
  obtain rfl := hw.symm
  go_wp2_with fail
  go_region
  go_wp2
  exact bodyPost_ret (v := .tuple #[.agg #[.int .u64 t, .slice (some ⟨b, of, none⟩) 0 0], .slice (some ⟨b, of, none⟩) 0 0, .nilIface]) (by simp [results, Tryf.results21, go_sem]) rfl ⟨_, _, _, _, rfl, by omega, (fun h => by omega), rfl⟩

theorem Lies.alloc {w : World} {b of : Nat} {X : List Int} (h : Lies w b of X) (hb : b < w.heap.size) (o : Obj) : Lies (w.alloc o) b of X := fun j c hj =>
  (World.cell?_alloc_lt w o ⟨b, of + j, none⟩ hb).trans (h j c hj)

/-- ReadElement, on an element that stands whole -/
theorem readElement_ok (b of len cap : Nat) (t : Int) (ln : Nat) (w : World) (ht : 1 ≤ t) (ht2 : t ≤ 4294967295) (hle : (hdr t ln).length + ln ≤ len) (hcap : len ≤ cap) (hlen : len ≤ 1000000000) (hb : b < w.heap.size) (hc : Lies w b of (hdr t ln)) :
    Calls Tryf.prog 21 #[.slice (some ⟨b, of, none⟩) len cap] w fun e w' => Elem b of len t (hdr t ln).length ln w e w' := by
  have e1 := enc_len t
  have e2 := enc_len ln
  have hh : (hdr t ln).length = (enc t).length + (enc ln).length := by simp [hdr]
  have H := hidden (readHeader_ok b of len cap t ln (w.alloc (.cells #[.int .u64 0, .slice none 0 0] 55)) ht ht2 (by omega) (by omega) (by omega) hcap (hc.alloc hb _) hlen)
  by_cases k1 : cap = (hdr t ln).length
  · exact re_c b of len cap t _ ln w hle hcap hlen (by omega) k1 H
  · by_cases k3 : cap - (hdr t ln).length = ln
    · exact re_b b of len cap t _ ln w hle hcap hlen (by omega) k1 k3 H
    · exact re_a b of len cap t _ ln w hle hcap hlen (by omega) k1 k3 H

def uns (l : List Int) : List Value := l.map (Value.int .u64)
theorem uns_get {X : List Int} {i : Nat} {c : Int} (h : X[i]? = some c) : (uns X)[i]? = some (.int .u64 c) := by simp [uns, h]

theorem index_nil (t : Int) (w : World) : Calls Tryf.prog 20 #[.slice none 0 0, .int .u64 t] w fun e w' => e = .returned (.int .i64 (-1)) ∧ w' = w := by
  go_enter Tryf.func20, Tryf.ntmps20
  go_wp2
  go_loopg [4, 5, 8] 0 (fun q r x i wx => i = .int .i64 0 ∧ w = wx)
  case atStart => exact ⟨rfl, rfl⟩
  case round =>
    obtain ⟨rfl, rfl⟩ := hrel
    go_wp2
    go_ret
    exact ⟨rfl, rfl⟩
theorem index_any (b n cap : Nat) (t : Int) (L : List Int) (w : World) (hn : n ≤ 1000000) (hL : ∀ k c, L[k]? = some c → w.cell? ⟨b, k, none⟩ = some (.int .u64 c)) (hl : L.length = n) :
    Calls Tryf.prog 20 #[.slice (some ⟨b, 0, none⟩) n cap, .int .u64 t] w fun e w' => (∃ r : Int, e = .returned (.int .i64 r)) ∧ w' = w := by
  have HL := hidden hl
  have HC := hidden hL
  clear hl hL
  go_enter Tryf.func20, Tryf.ntmps20
  go_wp2
  go_loopg [4, 5, 8] n (fun q r x i wx => ∃ k : Nat, k ≤ n ∧ q = n - k ∧ i = .int .i64 k ∧ w = wx)
  case atStart => exact ⟨0, Nat.zero_le _, rfl, rfl, rfl⟩
  case round =>
    obtain ⟨k, hk, hq, rfl, rfl⟩ := hrel
    have HQ := hidden hq
    clear hq
    by_cases hlt : k < n
    · obtain ⟨c, hcc⟩ : ∃ c, L[k]? = some c := ⟨L[k]'(by rw [HL.out]; exact hlt), List.getElem?_eq_getElem _⟩
      have hck := HC.out k c hcc
      clear hcc
      by_cases htc : t = c
      · have q1 : (t == c) = true := by rw [htc]; simp
        clear htc
        go_wp2
        go_ret
        exact ⟨⟨_, rfl⟩, rfl⟩
      · have q1 : (t == c) = false := beq_eq_false_iff_ne.2 htc
        clear htc
        go_wp2
        go_roundg (n - (k + 1))
        case measure => have := HQ.out; omega
        case rel => exact ⟨k + 1, by omega, rfl, by go_num, rfl⟩
    · obtain rfl : k = n := by omega
      go_wp2
      go_ret
      exact ⟨⟨_, rfl⟩, rfl⟩
theorem contains_any (B : Nat) (m : Value) (n : Nat) (t : Int) (L : List Int) (w : World) (hn : n ≤ 1000000) (h : w.ownsRow B 28 1 m n (uns L)) :
    Calls Tryf.prog 27 #[m, .int .u64 t] w fun e w' => (∃ r : Bool, e = .returned (.bool r)) ∧ w' = w := by
  have H : Hid (Calls Tryf.prog 20 #[m, .int .u64 t] w fun e w' => (∃ r : Int, e = .returned (.int .i64 r)) ∧ w' = w) := by
    have hl : L.length = n := by have := h.1; simpa [uns] using this
    rcases h.2 with ⟨rfl, rfl⟩ | ⟨g, cap, cur, rfl, _⟩
    · exact (index_nil t w).mono fun e w' ⟨h1, h2⟩ => ⟨⟨_, h1⟩, h2⟩
    · refine index_any g n cap t L w hn (fun k c hk => ?_) hl
      have hlt : k < n := by rw [← hl]; exact (List.getElem?_eq_some_iff.1 hk).1
      rw [h.cellAt k (by omega)]
      exact uns_get hk
  clear h
  go_enter Tryf.func27, Tryf.ntmps27
  go_wp2_with fail
  refine H.out.mono ?_
  rintro e w' ⟨⟨r, rfl⟩, hw⟩
  obtain rfl := hw.symm
  go_wp2
  go_ret
  exact ⟨⟨_, rfl⟩, rfl⟩
end Go.Proofs.Qxb6616613aFmt
