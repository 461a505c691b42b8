/-
  The bound's test of law 5, and what is known of a slice of slices of bytes.
-/
import Derived.Test.Qxb6616613aFmtFields
namespace Go.Proofs.Qxb6616613aFmt
open Go.ChangeShapes Go.WideShapes Go.ChangeAt Go.RowKit
set_option linter.unusedVariables false

/-- one payload: its slice and its bytes -/
structure Pay where
  a : Option Addr
  n : Nat
  c : Nat
  x : List Int

/-- the payloads lie in memory from ⟨b, of⟩ on -/
def Pays (w : World) (b of : Nat) (ps : List Pay) : Prop :=
  ∀ (i : Nat) p, ps[i]? = some p → w.cell? ⟨b, of + i, none⟩ = some (.slice p.a p.n p.c) ∧ p.x.length = p.n ∧ p.n ≤ maxLen ∧ (p.a = none → p.n = 0 ∧ p.c = 0) ∧ Src w p.a p.x

/-- the bound's test says something, and turns nothing -/
theorem zzb5_any (a0 : Option Addr) (n0 c0 : Nat) (a1 : Option Addr) (n1 c1 : Nat) (w : World) (h0 : n0 ≤ maxLen) (h1 : n1 ≤ maxLen) (ps : List Pay) (hl : ps.length = n1) (hp : n1 = 0 ∨ ∃ b of, a1 = some ⟨b, of, none⟩ ∧ Pays w b of ps) :
    Calls Tryf.prog 16 #[.slice a0 n0 c0, .slice a1 n1 c1] w fun e w' => (∃ b, e = .returned (.bool b) ∧ (b = true → ∀ (i : Nat) p, ps[i]? = some p → p.n ≤ 1048576)) ∧ w' = w := by
  unfold maxLen at h0 h1
  have HL := hidden hl
  have HP := hidden hp
  clear hl hp
  by_cases s0 : 1048576 < n0
  · go_enter Tryf.func16, Tryf.ntmps16
    go_wp2
    go_ret
    exact ⟨⟨_, rfl, fun h => by cases h⟩, rfl⟩
  by_cases s1 : 1048576 < n1
  · go_enter Tryf.func16, Tryf.ntmps16
    go_wp2
    go_ret
    exact ⟨⟨_, rfl, fun h => by cases h⟩, rfl⟩
  by_cases s2 : 1048576 < n0 + n1
  · go_enter Tryf.func16, Tryf.ntmps16
    go_wp2
    go_ret
    exact ⟨⟨_, rfl, fun h => by cases h⟩, rfl⟩
  have t0 : n0 ≤ 1048576 := by omega
  have t1 : n1 ≤ 1048576 := by omega
  have t2 : n0 + n1 ≤ 1048576 := by omega
  have t2' : ¬ (1048576 : Int) < (n0 : Int) + (n1 : Int) := by omega
  clear s0 s1 s2 h0 h1
  go_enter Tryf.func16, Tryf.ntmps16
  go_wp2_with fail
  go_loopg [5, 6] n1 (fun q z i wx => ∃ k s : Nat, k ≤ n1 ∧ q = n1 - k ∧ s ≤ 1048576 ∧ z = .int .i64 s ∧ i = .int .i64 k ∧ w = wx ∧ Hid (∀ (j : Nat) p, j < k → ps[j]? = some p → p.n ≤ 1048576))
  case atStart => exact ⟨0, n0 + n1, Nat.zero_le _, rfl, by omega, by go_num, rfl, rfl, fun j p hj => by omega⟩
  case round =>
    obtain ⟨k, s, hk, hq, hs, rfl, rfl, rfl, AL⟩ := hrel
    have HQ := hidden hq
    clear hq
    by_cases hlt : k < n1
    · obtain ⟨b, of, rfl, hP⟩ := HP.out.resolve_left (by omega)
      obtain ⟨p, hpk⟩ : ∃ p, ps[k]? = some p := ⟨ps[k]'(by rw [HL.out]; exact hlt), List.getElem?_eq_getElem _⟩
      obtain ⟨hc, _, hm, _, _⟩ := hP k p hpk
      unfold maxLen at hm
      have PK := hidden hpk
      clear hpk hP
      by_cases r0 : 1048576 < p.n
      · go_wp2
        go_ret
        exact ⟨⟨_, rfl, fun h => by cases h⟩, rfl⟩
      by_cases r1 : 1048576 < s + p.n
      · have r0' : p.n ≤ 1048576 := by omega
        have r1' : (1048576 : Int) < (s : Int) + (p.n : Int) := by omega
        clear r0
        go_wp2
        go_ret
        exact ⟨⟨_, rfl, fun h => by cases h⟩, rfl⟩
      · have r0' : p.n ≤ 1048576 := by omega
        have r1' : ¬ (1048576 : Int) < (s : Int) + (p.n : Int) := by omega
        clear r0
        go_wp2
        go_roundg (n1 - (k + 1))
        case measure => have := HQ.out; omega
        case rel => exact ⟨k + 1, s + p.n, by omega, rfl, by omega, by go_num, by go_num, rfl, fun j p' hj hp' => by
          by_cases hjk : j < k
          · exact AL.out j p' hjk hp'
          · obtain rfl : j = k := by omega
            rw [PK.out] at hp'
            cases hp'
            exact r0'⟩
    · obtain rfl : k = n1 := by omega
      go_wp2
      go_ret
      exact ⟨⟨_, rfl, fun _ i p hi => AL.out i p (by rw [← HL.out]; exact (List.getElem?_eq_some_iff.1 hi).1) hi⟩, rfl⟩
end Go.Proofs.Qxb6616613aFmt
