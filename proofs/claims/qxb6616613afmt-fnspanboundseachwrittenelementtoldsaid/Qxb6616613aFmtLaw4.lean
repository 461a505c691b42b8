/-
  FnAppendHeaderReadsBack: the law's own walk.
-/
import Derived.Test.Qxb6616613aFmtStop
import Derived.Deep.QuietTactic
import Derived.BigQuiet
namespace Go.Proofs.Qxb6616613aFmt
open Go.ChangeShapes Go.WideShapes Go.ChangeAt Go.RowKit
open Go.Extern.Stop Go.Stop Go.Extern
set_option linter.unusedVariables false

theorem law4_long (a0 : Option Addr) (n c0 : Nat) (t l : Int) (a1 : Option Addr) (m c1 : Nat) (w : World) (h0 : n ≤ maxLen) (h1 : m ≤ maxLen) (h : 524288 < n ∨ 524288 < m) :
    Calls Tryf.prog 4 #[.slice a0 n c0, .int .u64 t, .int .u64 l, .slice a1 m c1] w fun e w' => e = .returned (.bool true) ∧ Below w.heap.size w w' := by
  have H := hidden (zzb4_any a0 n c0 t l a1 m c1 w h0 h1)
  unfold maxLen at h0 h1
  rcases Nat.lt_or_ge 524288 n with hl | hl
  · go_enter Tryf.func4, Tryf.ntmps4
    go_wp2_with (go_at_call 12; refine H.out.mono ?_; rintro e w' ⟨⟨b, rfl⟩, hw⟩; obtain rfl := hw.symm; cases b)
    all_goals (go_wp2; go_ret; exact ⟨rfl, Below.refl _ _⟩)
  · have hl1 : 524288 < m := by omega
    go_enter Tryf.func4, Tryf.ntmps4
    go_wp2_with (go_at_call 12; refine H.out.mono ?_; rintro e w' ⟨⟨b, rfl⟩, hw⟩; obtain rfl := hw.symm; cases b)
    all_goals (go_wp2; go_ret; exact ⟨rfl, Below.refl _ _⟩)

theorem block_lt {w : World} {b : Nat} {o : Obj} (h : w.heap[b]? = some o) : b < w.heap.size := (Array.getElem?_eq_some_iff.1 h).1

/-- the clone, as a source again -/
theorem clone_src {w w' : World} {a' : Option Addr} {n : Nat} {X : List Int} (hX : X.length = n) (h1 : a' = none → n = 0) (h2 : ∀ x, a' = some x → x = ⟨w.heap.size, 0, none⟩ ∧ w'.heap[w.heap.size]? = some (.cells (byts X).toArray 5 (0, 0))) : Src w' a' X := by
  cases a' with
  | none => exact .inl (List.eq_nil_of_length_eq_zero (hX.trans (h1 rfl)))
  | some x =>
    obtain ⟨rfl, hh⟩ := h2 x rfl
    refine .inr ⟨w.heap.size, 0, rfl, block_lt hh, fun j u hj => ?_⟩
    rw [cell_of_row w' w.heap.size (0 + j) _ 5 (0, 0) hh, Nat.zero_add]
    simpa using hj

theorem byts_get {X : List Int} {i : Nat} {c : Int} (h : X[i]? = some c) : (byts X)[i]? = some (.int .u8 c) := by simp [byts, h]

/-- what is owned, byte by byte -/
theorem owned_lies {w : World} {base g n cap : Nat} {X : List Int} (h : w.ownsRow base 5 1 (.slice (some ⟨g, 0, none⟩) n cap) n (byts X)) (hX : X.length = n) : Lies w g 0 X := fun j c hj => by
  have hlt : j < n := by rw [← hX]; exact (List.getElem?_eq_some_iff.1 hj).1
  rw [Nat.zero_add, h.cellAt j (by omega)]
  exact byts_get hj

theorem byts_inv {X : List Int} {i : Nat} {u : Value} (h : (byts X)[i]? = some u) : ∃ c, X[i]? = some c ∧ u = .int .u8 c := by
  unfold byts at h
  rw [List.getElem?_map] at h
  obtain ⟨c, hc, rfl⟩ := Option.map_eq_some_iff.1 h
  exact ⟨c, hc, rfl⟩

/-- the tail's bytes, behind the make and the first append -/
theorem tail_cells {wr w4 w5 : World} {a1 : Option Addr} {T : List Int} (h : Src wr a1 T) (h4 : wr.grownBy w4 none) (h5 : w4.grownBy w5 (some wr.heap.size)) : ∀ ad, a1 = some ad → ∀ j u, (byts T)[j]? = some u → w5.cell? (ad.add j) = some u := by
  intro ad had j u hj
  rcases h with rfl | ⟨b, of, hb, hlt, hc⟩
  · simp [byts] at hj
  · rw [had] at hb
    cases hb
    rw [add_plain]
    exact h5.cell (h4.cell (hc j u hj) (fun e => by cases e)) (fun e => by have : b = wr.heap.size := Option.some.inj e; omega)

set_option maxHeartbeats 4000000 in
set_option maxRecDepth 100000 in
theorem law4_short (F : Interp) (a0 : Option Addr) (n c0 : Nat) (t l : Int) (a1 : Option Addr) (m c1 : Nat) (X T : List Int) (a : Addr) (s : ByteArray) (w : World) (hF : F.answers w.tape)
    (hg : w.cell? ⟨0, 0, none⟩ = some (.iface 78 (.pointer (some a)))) (hs : w.cell? a = some (.string s))
    (hn : n ≤ 524288) (hm : m ≤ 524288) (hX : X.length = n) (hT : T.length = m) (ha0 : a0 = none → n = 0) (ha1 : a1 = none → m = 0 ∧ c1 = 0) (s0 : Src w a0 X) (s1 : Src w a1 T)
    (ht : 0 ≤ t) (ht2 : t ≤ 18446744073709551615) (hl : 0 ≤ l) (hl2 : l ≤ 18446744073709551615) :
    Calls Tryf.prog 4 #[.slice a0 n c0, .int .u64 t, .int .u64 l, .slice a1 m c1] w fun e w' => e = .returned (.bool true) ∧ Below w.heap.size w w' := by
  obtain ⟨i0, hi, hz0, hz1, hz2⟩ := info_parts Tryf.info5
  have Z := hidden (zzb4_yes a0 n c0 t l a1 m c1 w hn hm)
  have C1 := hidden (clone_any a0 n c0 X w hX (by omega) ha0 s0)
  have V1 := hidden (fun wx => varSize_any t wx ht ht2)
  have V2 := hidden (fun wx => varSize_any l wx hl hl2)
  have e1 := enc_len t
  have e2 := enc_len l
  have hh : (hdr t l).length = (enc t).length + (enc l).length := by simp [hdr]
  obtain ⟨k1, hk1⟩ : ∃ k, (enc t).length = k := ⟨_, rfl⟩
  obtain ⟨k2, hk2⟩ : ∃ k, (enc l).length = k := ⟨_, rfl⟩
  obtain ⟨hN, hhN⟩ : ∃ k, (hdr t l).length = k := ⟨_, rfl⟩
  rw [hk1] at V1 e1 hh
  rw [hk2] at V2 e2 hh
  rw [hhN] at hh
  have HN := hidden hhN
  have HS := hidden hh
  have HK := hidden hk1
  have hN1 : hN ≤ 18 := by omega
  have hN2 : 2 ≤ hN := by omega
  have hne : ((n : Int) + (hN : Int) != (n : Int) + (k1 : Int) + (k2 : Int)) = false := by
    rw [hh]; simp; omega
  clear hk1 hk2 hhN hh
  go_enter Tryf.func4, Tryf.ntmps4
  go_wp2_with fail
  refine Z.out.mono ?_
  rintro e w' ⟨rfl, hw⟩
  obtain rfl := hw.symm
  go_wp2_with fail
  refine C1.out.mono ?_
  rintro e w1 ⟨ab, rfl, p1, p2, B1⟩
  have O1 := hidden (clone_owned hX (by omega) p1 p2)
  have C2 := hidden (clone_any ab n n X w1 hX (by omega) p1 (clone_src hX p1 p2))
  have P2 := hidden p2
  clear C1 Z p2
  go_wp2_with fail
  refine C2.out.mono ?_
  rintro e w2 ⟨ao, rfl, q1, q2, B2⟩
  have Q2 := hidden q2
  clear q2 C2
  have B12 : Below w.heap.size w w2 := B1.trans (B2.mono B1.size)
  have O2 := hidden (O1.out.kept (w' := w2) (row := none) ⟨B2.os, B2.tape, B2.output, B2.size, fun k hk _ => B2.block k hk⟩ (by cases hv : (Value.slice ab n n).ownBlock <;> simp))
  have C3 := hidden (header_any w.heap.size (.slice ab n n) n (byts X) t l w2 O2.out ht ht2 hl hl2 (by omega) B12.size)
  rw [HN.out] at C3
  clear O1
  go_wp2_with fail
  refine C3.out.mono ?_
  rintro e w3 ⟨g, cap, rfl, hown, hgr, hat⟩
  go_wp2_with fail
  refine (V1.out _).mono ?_
  rintro e w' ⟨rfl, hw⟩
  obtain rfl := hw.symm
  go_wp2_with fail
  refine (V2.out _).mono ?_
  rintro e w' ⟨rfl, hw⟩
  obtain rfl := hw.symm
  have B3 : Below w.heap.size w w3 := ⟨hgr.os.trans B12.os, hgr.tape.trans B12.tape, hgr.output.trans B12.output, Nat.le_trans B12.size hgr.size, fun k hk => (hgr.block k (Nat.lt_of_lt_of_le hk B12.size) (fun e => by
    have := (O2.out.lt k e.symm).1; omega)).trans (B12.block k hk)⟩
  have OL := hidden (owned_lies (X := X ++ hdr t l) (by rw [byts_append]; exact hown) (by simp [hX, HN.out]))
  have HO := hidden hown
  have QL := hidden (show ∀ x, ao = some x → x = ⟨w1.heap.size, 0, none⟩ ∧ Lies w3 w1.heap.size 0 X from fun x hx => by
    obtain ⟨rfl, hY⟩ := Q2.out x hx
    refine ⟨rfl, fun j c hj => ?_⟩
    have hY3 : w3.heap[w1.heap.size]? = some (.cells (byts X).toArray 5 (0, 0)) := by
      rw [hgr.block _ (block_lt hY) (fun e => ?_)]
      · exact hY
      · cases ab with
        | none => cases e
        | some y =>
          obtain ⟨rfl, hb⟩ := P2.out y rfl
          have := block_lt hb
          have e' : w1.heap.size = w.heap.size := by simpa [Value.ownBlock] using e
          omega
    rw [cell_of_row w3 w1.heap.size (0 + j) _ 5 (0, 0) hY3, Nat.zero_add]
    simpa using byts_get hj)
  have q1' := hidden q1
  have HX := hidden hX
  clear C3 V1 V2 hown Q2 P2 O2 q1 hX p1
  go_wp2_with fail
  go_loopg [12] n (fun q i wx => ∃ k d : Nat, k ≤ n ∧ q = n - k ∧ i = .int .i64 k ∧ wx = w3.drewN d)
  case atStart => exact ⟨0, 0, Nat.zero_le _, rfl, rfl, rfl⟩
  case round =>
    obtain ⟨k, d, hk, hq, rfl, hwx⟩ := hrel
    have HQ := hidden hq
    clear hq
    by_cases hkn : k < n
    · obtain ⟨x, rfl⟩ : ∃ x, ao = some x := by
        cases ao with
        | none => have := q1'.out rfl; omega
        | some x => exact ⟨x, rfl⟩
      obtain ⟨rfl, hY⟩ := QL.out x rfl
      obtain ⟨c, hc⟩ : ∃ c, X[k]? = some c := ⟨X[k]'(by rw [HX.out]; exact hkn), List.getElem?_eq_getElem _⟩
      have d1 : wr.cell? ⟨g, k, none⟩ = some (.int .u8 c) := by
        rw [hwx]; have := OL.out k c (by rw [List.getElem?_append_left (by rw [HX.out]; exact hkn)]; exact hc); rwa [Nat.zero_add] at this
      have d2 : wr.cell? ⟨w1.heap.size, k, none⟩ = some (.int .u8 c) := by
        rw [hwx]; have := hY k c hc; rwa [Nat.zero_add] at this
      have u1 : (k : Int) < (n : Int) + (hN : Int) := by omega
      have u2 : (k : Int) < (n : Int) := by omega
      have HW := hidden hwx
      clear hwx hc
      go_wp2_with fail
      go_quiet (fail)
      go_wp2
      go_roundg (n - (k + 1))
      case measure => have := HQ.out; omega
      case rel => exact ⟨k + 1, d + nq, by omega, rfl, by go_num, by rw [HW.out]; simp⟩
    · obtain rfl : n = k := by omega
      have HOr : wr.ownsRow w.heap.size 5 1 (.slice (some ⟨g, 0, none⟩) (n + hN) cap) (n + hN) (byts X ++ byts (hdr t l)) := by rw [hwx]; exact HO.out
      have B3r : Below w.heap.size w wr := by rw [hwx]; exact ⟨B3.os, B3.tape, B3.output, B3.size, B3.block⟩
      have hcap : n + hN ≤ cap := by
        rcases HOr.2 with ⟨hv, _⟩ | ⟨g', cap', cur, hv, _, _, hle, _⟩
        · cases hv
        · cases hv; exact hle
      have hgl : g < wr.heap.size := (HOr.lt g rfl).2
      have OLr : Lies wr g 0 (X ++ hdr t l) := by rw [hwx]; exact OL.out
      have OH := hidden (by have := OLr.right; rwa [HX.out, Nat.zero_add] at this : Lies wr g n (hdr t l))
      have SR := hidden (s1.later B3r)
      have hcn : ¬ cap = n := by omega
      have hnN : n ≤ n + hN := by omega
      clear hwx HO OL QL q1' HOr OLr s0 s1 HQ hkn hk hgr hat
      go_wp2_with (at_make; refine wpList_make_own _ rfl _ _ 22 rfl wr.heap.size 5 i0 (.int .u8 0) 1 Tryf.underlying22 hi hz0 hz1 _ _ _ (hN + m) rfl rfl (by omega) ?b2 ?b3 (Nat.le_refl _) ?_)
      case b2 => rw [hz2]; omega
      case b3 => unfold maxLen; omega
      intro w4 hown4 hgrow4
      have f1 := hidden (show ∀ j u, (byts (hdr t l))[j]? = some u → w4.cell? ((⟨g, n, none⟩ : Addr).add j) = some u from fun j u hj => by
        rw [add_plain]
        obtain ⟨c, hc, rfl⟩ := byts_inv hj
        exact hgrow4.cell (OH.out j c hc) (fun e => by cases e))
      have f2 := hidden (show (byts (hdr t l)).length = hN * 1 by rw [byts_len, HN.out, Nat.mul_one])
      have f3 := hidden (show (byts T).length = m * 1 by rw [byts_len, hT, Nat.mul_one])
      have HA := hidden ha1
      clear ha1
      go_wp2_with (first
        | (at_builtin; refine wpList_append_fits _ rfl (.tmp 72) (.tmp 75) 22 rfl wr.heap.size 5 i0 1 Tryf.underlying22 hi hz1 wr.heap.size 0 (hN + m) [] rfl hown4 ⟨g, n, none⟩ hN (cap - n) (byts (hdr t l)) rfl f2.out f1.out (bytes_one _) (by omega) ?_; intro w5 hown5 hgrow5; simp only [Nat.zero_add, List.nil_append] at hown5)
        | (at_builtin; refine wpList_append_fits_any _ rfl (.tmp 77) (.tmp 78) 22 rfl wr.heap.size 5 i0 1 Tryf.underlying22 hi hz1 wr.heap.size hN (hN + m) (byts (hdr t l)) rfl hown5 a1 m c1 (byts T) rfl f3.out HA.out (tail_cells SR.out hgrow4 hgrow5) (bytes_one _) (Nat.le_refl _) ?_; intro w6 hown6 hgrow6))
      have LH : Lies w6 wr.heap.size 0 (hdr t l ++ T) := owned_lies (by rw [byts_append]; exact hown6) (by rw [List.length_append, HN.out, hT])
      have B6 : Below w.heap.size w w6 := ((B3r.grown hgrow4 B3r.size (fun k h => by cases h)).grown hgrow5 (Nat.le_trans B3r.size hgrow4.size) (fun k h => by cases h; exact B3r.size)).grown hgrow6 (Nat.le_trans (Nat.le_trans B3r.size hgrow4.size) hgrow5.size) (fun k h => by cases h; exact B3r.size)
      have h0 : 0 < w.heap.size := World.block_lt_of_cell? _ _ hg
      have hg6 : w6.cell? ⟨0, 0, none⟩ = some (.iface 78 (.pointer (some a))) := (B6.cell (p := ⟨0, 0, none⟩) h0).trans hg
      have hs6 : w6.cell? a = some (.string s) := (B6.cell (World.block_lt_of_cell? _ _ hs)).trans hs
      have hF6 : F.answers w6.tape := by rw [B6.tape]; exact hF
      by_cases hbad : t = 0 ∨ 4294967295 < t
      · have CB := hidden (readHeader_bad F wr.heap.size 0 (hN + m) (hN + m) t a s w6 hF6 hg6 hs6 ht ht2 hbad (by rw [HK.out]; have := HS.out; omega) (Nat.le_refl _) LH.left.left (by omega))
        clear hown4 hown5 hown6 hgrow4 hgrow5 hgrow6 LH f1 f2 f3 OH SR B3r hg hs hF hg6 hs6 hF6
        refine CB.out.mono ?_
        rintro e w7 ⟨⟨N, rfl⟩, B7⟩
        have B8 := B6.trans (B7.mono B6.size)
        clear CB
        rcases hbad with h | hbad
        · have k3 : (t == 0) = true := by rw [h]; rfl
          go_wp2
          go_ret
          exact ⟨rfl, B8⟩
        · have k3 : (t == 0) = false := beq_eq_false_iff_ne.2 (by omega)
          go_wp2
          go_ret
          exact ⟨rfl, B8⟩
      · have CB := hidden (readHeader_ok wr.heap.size 0 (hN + m) (hN + m) t l w6 (by omega) (by omega) hl hl2 (by rw [HN.out]; omega) (Nat.le_refl _) LH.left (by omega))
        rw [HN.out] at CB
        clear hown4 hown5 hown6 hgrow4 hgrow5 hgrow6 LH f1 f2 f3 OH SR B3r hg hs hF hg6 hs6 hF6
        refine CB.out.mono ?_
        rintro e w' ⟨rfl, hw⟩
        obtain rfl := hw.symm
        have k3 : (t == 0) = false := beq_eq_false_iff_ne.2 (by omega)
        have k4 : ¬ 4294967295 < t := by omega
        have k5 : ((hN : Int) == (n : Int) + (hN : Int) - (n : Int)) = true := by simp; omega
        go_wp2
        go_ret
        exact ⟨rfl, B6⟩
end Go.Proofs.Qxb6616613aFmt
