/-
  FnSpanBoundsEachWrittenElement: the law's own walk.
-/
import Derived.Test.Qxb6616613aFmtZz
import Derived.Test.Qxb6616613aFmtNext2
import Derived.Deep.DeepCutAuto
import Derived.Laws.AppendOwnNone
namespace Go.Proofs.Qxb6616613aFmt
open Go.ChangeShapes Go.WideShapes Go.ChangeAt Go.RowKit
set_option linter.unusedVariables false

/-- append of a payload, empty or nil or not, onto a row of the call's own -/
theorem wpList_append_pay {P : Program} {w : World} {ops : Array Oper} {rest : List Oper} {o : Oper} {a : Act} {Q : Exit → Act → World → Prop} (hgd : o.guard = none) (s x : Operand) (t : TypeId)
    (ho : o.op = .call { callee := .builtin .append, args := #[s, x], argTypes := #[t, t] })
    (base : Nat) (e : TypeId) (i : TypeInfo) (z : Value) (size bytes : Nat) (ht : P.underlying t = some (.slice e)) (hi : P.info? e = some i) (hz : i.zero = some z)
    (hsize : i.size = size) (hby : i.bytes = bytes) (hzs : z.cells.size = size) (hsz : 0 < size)
    (g n cap : Nat) (xs : List Value) (hs : a.eval s = .slice (some ⟨g, 0, none⟩) n cap) (hown : w.ownsRow base e size (.slice (some ⟨g, 0, none⟩) n cap) n xs)
    (ao : Option Addr) (m c : Nat) (news : List Value) (hx : a.eval x = .slice ao m c) (hl : news.length = m * size) (hnone : ao = none → m = 0 ∧ c = 0) (hnews : ∀ ad, ao = some ad → ∀ j u, news[j]? = some u → w.cell? (ad.add j) = some u) (h1 : ∀ u ∈ news, u.oneCell' = true)
    (h63 : n + m ≤ maxLen) (hbytes : (n + m) * bytes ≤ 140737488355328) (hbase : base ≤ w.heap.size)
    (h : ∀ g' cap' w', w'.ownsRow base e size (.slice (some ⟨g', 0, none⟩) (n + m) cap') (n + m) (xs ++ news) → w.grownBy w' (some g) → wpList P ops Q rest (a.put o.dst (.slice (some ⟨g', 0, none⟩) (n + m) cap')) w') : wpList P ops Q (o :: rest) a w := by
  cases ao with
  | none =>
    obtain ⟨rfl, rfl⟩ := hnone rfl
    have hn : news = [] := List.eq_nil_of_length_eq_zero (by simpa using hl)
    subst hn
    refine wpList_append_own_none hgd s x t ho base e i size ht hi _ n xs hs hown hx ?_
    exact h g cap w (by simpa using hown) ⟨rfl, rfl, rfl, Nat.le_refl _, fun _ _ _ => rfl⟩
  | some ad =>
    refine wpList_append_own w hgd s x t ho base e i z size bytes ht hi hz hsize hby hzs hsz _ n xs hs hown ad m c news hx hl (hnews ad rfl) h1 h63 hbytes hbase ?_
    intro v' w' hv hg hiff
    rcases hv.2 with ⟨hv0, _⟩ | ⟨g', cap', cur, rfl, _⟩
    · exact absurd (hiff.1 hv0).1 (by simp)
    · exact h g' cap' w' hv hg

/-- the types lie in memory -/
def Tys (w : World) (a0 : Option Addr) (ts : List Int) : Prop :=
  ∀ (i : Nat) t, ts[i]? = some t → ∃ b of, a0 = some ⟨b, of, none⟩ ∧ w.cell? ⟨b, of + i, none⟩ = some (.int .u64 t) ∧ 0 ≤ t ∧ t ≤ 18446744073709551615
/-- the payloads lie in memory -/
def Pls (w : World) (a1 : Option Addr) (ps : List Pay) : Prop :=
  ∀ (i : Nat) p, ps[i]? = some p → ∃ b of, a1 = some ⟨b, of, none⟩ ∧ w.cell? ⟨b, of + i, none⟩ = some (.slice p.a p.n p.c) ∧ p.x.length = p.n ∧ p.n ≤ maxLen ∧ (p.a = none → p.n = 0 ∧ p.c = 0) ∧ Src w p.a p.x

def sums (ps : List Pay) : Nat := (ps.map (·.n)).sum
theorem sums_step {ps : List Pay} {k : Nat} {p : Pay} (h : ps[k]? = some p) : sums (ps.take (k + 1)) = sums (ps.take k) + p.n := by
  obtain ⟨hk, hc⟩ := List.getElem?_eq_some_iff.1 h
  rw [List.take_succ_eq_append_getElem hk, hc]
  simp [sums]

theorem zzb5 (a0 : Option Addr) (n0 c0 : Nat) (a1 : Option Addr) (n1 c1 : Nat) (w : World) (h0 : n0 ≤ maxLen) (h1 : n1 ≤ maxLen) (ps : List Pay) (hl : ps.length = n1) (hp : Pls w a1 ps) :
    Calls Tryf.prog 16 #[.slice a0 n0 c0, .slice a1 n1 c1] w fun e w' => (∃ b, e = .returned (.bool b) ∧ (b = true → ∀ (i : Nat) p, ps[i]? = some p → p.n ≤ 1048576)) ∧ w' = w := by
  refine zzb5_any a0 n0 c0 a1 n1 c1 w h0 h1 ps hl ?_
  cases ps with
  | nil => exact .inl (by simpa using hl.symm)
  | cons q r =>
    obtain ⟨b, of, rfl, _⟩ := hp 0 q rfl
    refine .inr ⟨b, of, rfl, fun i p hi => ?_⟩
    obtain ⟨b', of', he, h⟩ := hp i p hi
    cases he
    exact h

set_option maxRecDepth 100000 in
theorem law5_long (a0 : Option Addr) (n0 c0 : Nat) (a1 : Option Addr) (n1 c1 : Nat) (w : World) (h0 : n0 ≤ maxLen) (h1 : n1 ≤ maxLen) (ps : List Pay) (hl : ps.length = n1) (hp : Pls w a1 ps) (h : 65536 < n0 ∨ 65536 < n1) :
    Calls Tryf.prog 5 #[.slice a0 n0 c0, .slice a1 n1 c1] w fun e w' => e = .returned (.bool true) ∧ Below w.heap.size w w' := by
  have H := hidden (zzb5 a0 n0 c0 a1 n1 c1 w h0 h1 ps hl hp)
  unfold maxLen at h0 h1
  clear hl hp
  rcases Nat.lt_or_ge 65536 n0 with hl | hl
  · go_enter Tryf.func5, Tryf.ntmps5
    go_wp2_with (go_at_call 16; refine H.out.mono ?_; rintro e w' ⟨⟨b, rfl, hb⟩, hw⟩; obtain rfl := hw.symm; cases b)
    all_goals (go_wp2; go_ret; exact ⟨rfl, Below.refl _ _⟩)
  · have hl1 : 65536 < n1 := by omega
    go_enter Tryf.func5, Tryf.ntmps5
    go_wp2_with (go_at_call 16; refine H.out.mono ?_; rintro e w' ⟨⟨b, rfl, hb⟩, hw⟩; obtain rfl := hw.symm; cases b)
    all_goals (go_wp2; go_ret; exact ⟨rfl, Below.refl _ _⟩)

/-- the bytes of one element -/
def el (z : Int × Pay) : List Int := hdr z.1 z.2.n ++ z.2.x
/-- the first k elements, one behind the other -/
def stm (ts : List Int) (ps : List Pay) (k : Nat) : List Int := ((ts.zip ps).take k).flatMap el
theorem stm_step {ts : List Int} {ps : List Pay} {k : Nat} {t : Int} {p : Pay} (ht : ts[k]? = some t) (hp : ps[k]? = some p) : stm ts ps (k + 1) = stm ts ps k ++ (hdr t p.n ++ p.x) := by
  have hz : (ts.zip ps)[k]? = some (t, p) := by rw [List.getElem?_zip_eq_some]; exact ⟨ht, hp⟩
  obtain ⟨hk, hc⟩ := List.getElem?_eq_some_iff.1 hz
  unfold stm
  rw [List.take_succ_eq_append_getElem hk, hc]
  simp [el]
theorem stm_split {ts : List Int} {ps : List Pay} {k n : Nat} {t : Int} {p : Pay} (ht : ts[k]? = some t) (hp : ps[k]? = some p) (hkn : k < n) : ∃ r, stm ts ps n = stm ts ps k ++ (hdr t p.n ++ p.x) ++ r := by
  refine ⟨(((ts.zip ps).take n).drop (k + 1)).flatMap el, ?_⟩
  rw [← stm_step ht hp]
  unfold stm
  rw [← List.flatMap_append]
  congr 1
  have : (ts.zip ps).take (k + 1) = ((ts.zip ps).take n).take (k + 1) := by rw [List.take_take]; congr 1; omega
  rw [this, List.take_append_drop]
theorem sums_le (ps : List Pay) (k : Nat) : sums (ps.take k) ≤ sums ps := by
  have h : sums ps = sums (ps.take k) + sums (ps.drop k) := by
    unfold sums
    rw [← List.sum_append, ← List.map_append, List.take_append_drop]
  omega

theorem pay_cells {w w2 : World} {B : Nat} {a : Option Addr} {X : List Int} (h : Src w a X) (hB : Below w.heap.size w w2) : ∀ ad, a = some ad → ∀ j u, (byts X)[j]? = some u → w2.cell? (ad.add j) = some u := by
  intro ad had j u hj
  rcases h with rfl | ⟨b, of, hb, hlt, hc⟩
  · simp [byts] at hj
  · rw [had] at hb
    cases hb
    rw [add_plain, hB.cell (p := ⟨b, of + j, none⟩) hlt]
    exact hc j u hj

/-- the value's bytes, wherever its block stands as it did -/
theorem val_lies {w : World} {B g L cap : Nat} {X : List Int} (h : w.ownsRow B 5 1 (.slice (some ⟨g, 0, none⟩) L cap) L (byts X)) (hX : L = X.length) :
    L ≤ cap ∧ ∃ gc, w.heap[g]? = some (.cells gc 5 (0, 0)) ∧ ∀ W : World, W.heap[g]? = some (.cells gc 5 (0, 0)) → Lies W g 0 X := by
  have hl := owned_lies h hX.symm
  rcases h.2 with ⟨hv, _⟩ | ⟨g', cap', cur, hv, _, hg, hle, _⟩
  · cases hv
  · cases hv
    refine ⟨hle, cur, hg, fun W hW j c hj => ?_⟩
    rw [World.cell?_of_block (w := w) (w' := W) (a := ⟨g, 0 + j, none⟩) (hW.trans hg.symm)]
    exact hl j c hj

theorem St.start {w : World} {B g L cap : Nat} {gc : Array Value} (hB : B ≤ w.heap.size) (hg : w.heap[g]? = some (.cells gc 5 (0, 0))) :
    St (w.alloc (.cells (FC (.slice (some ⟨g, 0, none⟩) L cap) 0 0 0 0 0 0 0 (.slice none 0 0)) 51)) B g w.heap.size gc (.slice (some ⟨g, 0, none⟩) L cap) ((0 : Nat) : Int) 0 0 :=
  ⟨by simp; omega, hB, (Below.heap_alloc _ _ _ (block_lt hg)).trans hg, 0, 0, 0, 0, .slice none 0 0, 0, [], heap_alloc_new w _, World.ownsRow_nil _ _ _ _, Nat.le_refl _⟩

/-- Span, at what stands -/
theorem span_st {w : World} {B g fb : Nat} {gc : Array Value} {v : Value} {a b : Int} {K : Nat} (h : St w B g fb gc v a b K) :
    Calls Tryf.prog 11 #[.pointer (some ⟨fb, 0, none⟩)] w fun e w' => e = .returned (.tuple #[.int .i64 b, .int .i64 a]) ∧ ∃ d, w' = w.drewN d := by
  obtain ⟨l0, l1, l2, l3, m, mn, L, hf, hm, hmK⟩ := h.rest
  obtain ⟨c0, c1, c2, c3, c4, c5, c6, c7, c8, c9, c11, fz⟩ := FC_get _ _ _ _ _ _ _ _ _ _ _ hf
  exact span_any fb a b w c1 c3

set_option maxHeartbeats 4000000 in
set_option maxRecDepth 100000 in
theorem law5_short (a0 : Option Addr) (n0 c0 : Nat) (a1 : Option Addr) (n1 c1 : Nat) (w : World) (h0 : n0 ≤ 65536) (h1 : n1 ≤ 65536) (ts : List Int) (ps : List Pay) (ht : ts.length = n0) (hl : ps.length = n1) (hy : Tys w a0 ts) (hp : Pls w a1 ps) :
    Calls Tryf.prog 5 #[.slice a0 n0 c0, .slice a1 n1 c1] w fun e w' => e = .returned (.bool true) ∧ Below w.heap.size w w' := by
  obtain ⟨i0, hi, hz0, hz1, hz2⟩ := info_parts Tryf.info5
  have H := hidden (zzb5 a0 n0 c0 a1 n1 c1 w (by unfold maxLen; omega) (by unfold maxLen; omega) ps hl hp)
  have HT := hidden ht
  have HL := hidden hl
  have HY := hidden hy
  have HP := hidden hp
  clear ht hl hy hp
  obtain ⟨n, hn⟩ : ∃ n, n = min n0 n1 := ⟨_, rfl⟩
  have n0' : n ≤ n0 := by omega
  have n1' : n ≤ n1 := by omega
  have NN : Hid (n1 < n0 → n = n1) := fun h => by omega
  have NM : Hid (¬ n1 < n0 → n = n0) := fun h => by omega
  clear hn
  go_enter Tryf.func5, Tryf.ntmps5
  go_wp2_with fail
  refine H.out.mono ?_
  rintro e w' ⟨⟨b, rfl, hb⟩, hw⟩
  obtain rfl := hw.symm
  have HM := hidden hb
  clear hb
  cases b with
  | false =>
    go_wp2
    go_ret
    exact ⟨rfl, Below.refl _ _⟩
  | true =>
    clear H
    go_wp2_with fail
    go_loopg [5, 6] n1 (fun q z i wx => ∃ k : Nat, k ≤ n1 ∧ q = n1 - k ∧ sums (ps.take k) ≤ 1048576 ∧ z = .int .i64 ((8 * n0 + 8 * k + sums (ps.take k) : Nat) : Int) ∧ i = .int .i64 k ∧ w = wx)
    case atStart => exact ⟨0, Nat.zero_le _, rfl, by simp [sums], by simp [sums], rfl, rfl⟩
    case round =>
      obtain ⟨k, hk, hq, hs, rfl, rfl, rfl⟩ := hrel
      have HQ := hidden hq
      clear hq
      by_cases hlt : k < n1
      · obtain ⟨p, hpk⟩ : ∃ p, ps[k]? = some p := ⟨ps[k]'(by rw [HL.out]; exact hlt), List.getElem?_eq_getElem _⟩
        obtain ⟨b, of, rfl, hc, _, _, _, _⟩ := HP.out k p hpk
        have hm : p.n ≤ 1048576 := HM.out (by trivial) k p hpk
        have E := hidden (sums_step hpk)
        clear hpk
        obtain ⟨s, hs'⟩ : ∃ s, 8 * n0 + 8 * k + sums (ps.take k) = s := ⟨_, rfl⟩
        have HS := hidden hs'
        have hsb : s ≤ 2097152 := by omega
        rw [hs']
        clear hs'
        by_cases r1 : 1048576 < s + (8 + p.n)
        · have r1' : (1048576 : Int) < (s : Int) + (8 + (p.n : Int)) := by omega
          go_wp2
          go_ret
          exact ⟨rfl, Below.refl _ _⟩
        · have r1' : ¬ (1048576 : Int) < (s : Int) + (8 + (p.n : Int)) := by omega
          go_wp2
          go_roundg (n1 - (k + 1))
          case measure => have := HQ.out; omega
          case rel => exact ⟨k + 1, by omega, rfl, by rw [E.out]; have := HS.out; omega, by rw [E.out]; have := HS.out; go_num, by go_num, rfl⟩
      · obtain rfl : n1 = k := by omega
        have SB : Hid (sums ps ≤ 1048576) := by rw [List.take_of_length_le (by rw [HL.out]; exact Nat.le_refl _)] at hs; exact hs
        obtain ⟨s, hs'⟩ : ∃ s, 8 * n0 + 8 * n1 + sums (ps.take n1) = s := ⟨_, rfl⟩
        rw [hs']
        clear hs' hs HQ hlt hk
        go_upto_if 55 with fail
        go_cut [7] (fun x7 wx => x7 = .int .i64 (n : Int) ∧ wx = w)
        case first =>
          by_cases hx : n1 < n0
          · have := NN.out hx
            go_wp2
            go_meet
            exact ⟨by rw [this], rfl⟩
          · have := NM.out hx
            go_wp2
            go_meet
            exact ⟨by rw [this], rfl⟩
        case rest =>
          obtain ⟨rfl, hwc⟩ := hcut
          obtain rfl := hwc.symm
          clear NN NM
          go_wp2_with fail
          go_loopg [8] n (fun q i wx => ∃ k : Nat, k ≤ n ∧ q = n - k ∧ i = .int .i64 k ∧ w = wx ∧ Hid (∀ (j : Nat) t, j < k → ts[j]? = some t → 1 ≤ t ∧ t ≤ 4294967295))
          case atStart => exact ⟨0, Nat.zero_le _, rfl, rfl, rfl, fun j t hj => by omega⟩
          case round =>
            obtain ⟨k, hk, hq, rfl, rfl, AL⟩ := hrel
            have HQ := hidden hq
            clear hq
            by_cases hlt : k < n
            · obtain ⟨t, htk⟩ : ∃ t, ts[k]? = some t := ⟨ts[k]'(by rw [HT.out]; omega), List.getElem?_eq_getElem _⟩
              obtain ⟨b, of, rfl, hc, t0, t1⟩ := HY.out k t htk
              have hkn0 : k < n0 := by omega
              have TK := hidden htk
              clear htk
              by_cases r0 : t = 0
              · have k3 : (t == 0) = true := by rw [r0]; rfl
                go_wp2
                go_ret
                exact ⟨rfl, Below.refl _ _⟩
              · have k3 : (t == 0) = false := beq_eq_false_iff_ne.2 r0
                by_cases r1 : 4294967295 < t
                · go_wp2
                  go_ret
                  exact ⟨rfl, Below.refl _ _⟩
                · go_wp2
                  go_roundg (n - (k + 1))
                  case measure => have := HQ.out; omega
                  case rel =>
                    refine ⟨k + 1, by omega, rfl, by go_num, rfl, fun j t' hj ht' => ?_⟩
                    by_cases hjk : j < k
                    · exact AL.out j t' hjk ht'
                    · obtain rfl : j = k := by omega
                      rw [TK.out] at ht'
                      cases ht'
                      omega
            · obtain rfl : n = k := by omega
              clear HQ hlt hk
              have LB := hidden (fun k => sums_le ps k)
              go_wp2_with (at_make; refine wpList_make_own _ rfl _ _ 22 rfl w.heap.size 5 i0 (.int .u8 0) 1 Tryf.underlying22 hi hz0 hz1 _ _ _ 0 rfl rfl (by omega) ?b2 ?b3 (Nat.le_refl _) ?_)
              case b2 => rw [hz2]; omega
              case b3 => unfold maxLen; omega
              intro w4 hown4 hgrow4
              have B4 : Below w.heap.size w w4 := (Below.refl _ _).grown hgrow4 (Nat.le_refl _) (fun k h => by cases h)
              have O4 := hidden hown4
              clear hown4 hgrow4
              go_wp2_with fail
              go_loopg [9, 10] n (fun q v i wx => ∃ k g L cap : Nat, k ≤ n ∧ q = n - k ∧ v = .slice (some ⟨g, 0, none⟩) L cap ∧ i = .int .i64 k ∧ L ≤ 18 * k + sums (ps.take k) ∧ Hid (L = (stm ts ps k).length) ∧ Hid (wx.ownsRow w.heap.size 5 1 (.slice (some ⟨g, 0, none⟩) L cap) L (byts (stm ts ps k))) ∧ Below w.heap.size w wx)
              case atStart => exact ⟨0, _, 0, _, Nat.zero_le _, rfl, rfl, rfl, Nat.zero_le _, rfl, O4.out, B4⟩
              case round =>
                obtain ⟨k, g, L, cap, hk, hq, rfl, rfl, hL, HLS, OW, BW⟩ := hrel
                have HQ := hidden hq
                clear hq O4 B4
                have hL2 : L ≤ 2228224 := by have := LB.out k; have := SB.out; omega
                by_cases hlt : k < n
                · obtain ⟨t, htk⟩ : ∃ t, ts[k]? = some t := ⟨ts[k]'(by rw [HT.out]; omega), List.getElem?_eq_getElem _⟩
                  obtain ⟨p, hpk⟩ : ∃ p, ps[k]? = some p := ⟨ps[k]'(by rw [HL.out]; omega), List.getElem?_eq_getElem _⟩
                  obtain ⟨b0, o0, rfl, hc0, t0, t1⟩ := HY.out k t htk
                  obtain ⟨b1, o1, rfl, hc1, hx1, _, hn1, hs1⟩ := HP.out k p hpk
                  have hpn : p.n ≤ 1048576 := HM.out (by trivial) k p hpk
                  have E1 := hidden (stm_step htk hpk)
                  have E2 := hidden (sums_step hpk)
                  obtain ⟨pa, pn, pc, px⟩ := p
                  dsimp only at hc1 hx1 hn1 hs1 hpn E1 E2
                  have d0 : wr.cell? ⟨b0, o0 + k, none⟩ = some (.int .u64 t) := (BW.cell (p := ⟨b0, o0 + k, none⟩) (World.block_lt_of_cell? _ _ hc0)).trans hc0
                  have d1 : wr.cell? ⟨b1, o1 + k, none⟩ = some (.slice pa pn pc) := (BW.cell (p := ⟨b1, o1 + k, none⟩) (World.block_lt_of_cell? _ _ hc1)).trans hc1
                  have hkn0 : k < n0 := by omega
                  have hkn1 : k < n1 := by omega
                  have e1 := enc_len t
                  have e2 := enc_len pn
                  have hh : (hdr t pn).length = (enc t).length + (enc pn).length := by simp [hdr]
                  have C := hidden (header_any w.heap.size (.slice (some ⟨g, 0, none⟩) L cap) L (byts (stm ts ps k)) t pn wr.drew OW.out t0 t1 (by omega) (by omega) (by omega) BW.size)
                  have OL := hidden OW.out.lt
                  obtain ⟨hN, hhN⟩ : ∃ m, (hdr t pn).length = m := ⟨_, rfl⟩
                  rw [hhN] at C hh
                  have HN := hidden hhN
                  have hN1 : hN ≤ 18 := by omega
                  clear e1 e2 hh hhN htk hpk
                  have hwu : IntKind.u64.wrap (pn : Int) = (pn : Int) := by rw [IntKind.wrap_u64]; omega
                  have hn1' := hidden hn1
                  have hs1' := hidden hs1
                  have hx1' := hidden hx1
                  have HC1 := hidden hc1
                  clear hc0 hc1 hn1 hs1 hx1
                  go_wp2_with fail
                  go_cut [9] (fun x9 wx => ∃ g2 cap2, x9 = .slice (some ⟨g2, 0, none⟩) (L + hN) cap2 ∧ Hid (wx.ownsRow w.heap.size 5 1 (.slice (some ⟨g2, 0, none⟩) (L + hN) cap2) (L + hN) (byts (stm ts ps k) ++ byts (hdr t pn))) ∧ Below w.heap.size w wx)
                  case first =>
                    go_region_with (go_at_call 13; refine C.out.mono ?_; rintro e w2 ⟨g2, cap2, rfl, hown2, hgr2, hat2⟩)
                    all_goals
                      go_wp2
                      go_meet
                      exact ⟨g2, cap2, rfl, hown2, BW.drew.grown hgr2 BW.size (fun j hj => (OL.out j hj).1)⟩
                  case rest =>
                    obtain ⟨g2, cap2, rfl, O2, B2⟩ := hcut
                    have d2 : wc.cell? ⟨b1, o1 + k, none⟩ = some (.slice pa pn pc) := (B2.cell (p := ⟨b1, o1 + k, none⟩) (World.block_lt_of_cell? _ _ HC1.out)).trans HC1.out
                    have f3 := hidden (show (byts px).length = pn * 1 by rw [byts_len, hx1'.out, Nat.mul_one])
                    have PC := hidden (pay_cells (B := 0) hs1'.out B2)
                    have OB := hidden O2.out.lt
                    clear C d0 d1
                    go_wp2_with (at_builtin; refine wpList_append_pay rfl (.tmp 93) (.tmp 97) 22 rfl w.heap.size 5 i0 (.int .u8 0) 1 1 Tryf.underlying22 hi hz0 hz1 hz2 rfl (by decide) g2 (L + hN) cap2 _ rfl O2.out pa pn pc (byts px) rfl f3.out hn1'.out PC.out (bytes_one _) ?b4 ?b5 B2.size ?_)
                    case b4 => unfold maxLen; omega
                    case b5 => omega
                    intro g3 cap3 w5 hown5 hgrow5
                    have O5 := hidden hown5
                    have B5 : Below w.heap.size w w5 := B2.grown hgrow5 B2.size (fun j hj => by cases hj; exact (OB.out g2 rfl).1)
                    clear hown5 hgrow5 d2
                    go_wp2
                    go_roundg (n - (k + 1))
                    case measure => have := HQ.out; omega
                    case rel =>
                      refine ⟨k + 1, g3, L + hN + pn, cap3, by omega, rfl, rfl, by go_num, by rw [E2.out]; omega, ?_, ?_, B5⟩
                      · show L + hN + pn = _
                        rw [E1.out]
                        simp only [List.length_append]
                        rw [← HLS.out, HN.out, hx1'.out]
                        omega
                      · rw [E1.out, byts_append, byts_append]
                        exact O5.out
                · obtain rfl : n = k := by omega
                  clear HQ hlt hk
                  have NF := hidden (newFields_any (some ⟨g, 0, none⟩) L cap wr)
                  obtain ⟨hcap, gc, hgc, GL⟩ := val_lies OW.out HLS.out
                  have hgB := (OW.out.lt g rfl).1
                  have S0 := hidden (St.start (L := L) (cap := cap) BW.size hgc)
                  have B0 := hidden (BW.alloc BW.size (.cells (FC (.slice (some ⟨g, 0, none⟩) L cap) 0 0 0 0 0 0 0 (.slice none 0 0)) 51))
                  have HG := hidden GL
                  obtain ⟨fb, hfb⟩ : ∃ fb, wr.heap.size = fb := ⟨_, rfl⟩
                  obtain ⟨w6, hw6⟩ : ∃ w6, wr.alloc (.cells (FC (.slice (some ⟨g, 0, none⟩) L cap) 0 0 0 0 0 0 0 (.slice none 0 0)) 51) = w6 := ⟨_, rfl⟩
                  rw [hfb, hw6] at NF S0
                  rw [hw6] at B0
                  clear hfb hw6 GL hgc OW BW
                  go_wp2_with fail
                  refine NF.out.mono ?_
                  rintro e w' ⟨rfl, hw⟩
                  obtain rfl := hw.symm
                  clear NF
                  go_wp2_with fail
                  go_loopg [12, 13, 14, 15, 16, 17, 18, 19, 20] n (fun q x12 x13 x14 x15 x16 x17 x18 x19 x20 wx => ∃ k off : Nat, ∃ bg : Int, k ≤ n ∧ q = n - k ∧ x12 = .int .i64 off ∧ x13 = .int .i64 k ∧ Hid (off = (stm ts ps k).length) ∧ Hid (St wx w.heap.size g fb gc (.slice (some ⟨g, 0, none⟩) L cap) (off : Int) bg k) ∧ Below w.heap.size w wx)
                  case atStart => exact ⟨0, 0, 0, Nat.zero_le _, rfl, rfl, rfl, rfl, S0.out, B0.out⟩
                  case round =>
                    obtain ⟨k, off, bg, hk, hq, rfl, rfl, HOF, SK, BK⟩ := hrel
                    have HQ := hidden hq
                    clear hq S0 B0
                    by_cases hlt : k < n
                    · obtain ⟨t, htk⟩ : ∃ t, ts[k]? = some t := ⟨ts[k]'(by rw [HT.out]; omega), List.getElem?_eq_getElem _⟩
                      obtain ⟨p, hpk⟩ : ∃ p, ps[k]? = some p := ⟨ps[k]'(by rw [HL.out]; omega), List.getElem?_eq_getElem _⟩
                      obtain ⟨b0, o0, rfl, hc0, t0, t1⟩ := HY.out k t htk
                      obtain ⟨b1, o1, rfl, hc1, hx1, _, hn1, hs1⟩ := HP.out k p hpk
                      have hpn : p.n ≤ 1048576 := HM.out (by trivial) k p hpk
                      obtain ⟨tl, tu⟩ := AL.out k t hlt htk
                      have E1 := hidden (stm_step htk hpk)
                      obtain ⟨r, hr⟩ := stm_split htk hpk hlt
                      obtain ⟨pa, pn, pc, px⟩ := p
                      dsimp only at hc1 hx1 hn1 hs1 hpn E1 hr
                      have HL4 := HG.out wr SK.out.val
                      rw [hr] at HL4
                      have hll : L = off + ((hdr t pn).length + pn) + r.length := by
                        rw [HLS.out, hr]
                        simp only [List.length_append]
                        rw [← HOF.out, hx1]
                      have HL5 : Lies wr g off (hdr t pn ++ px) := by have := HL4.left.right; rwa [← HOF.out, Nat.zero_add] at this
                      have C := hidden (next_ok t pn SK.out (by omega) tl tu (by omega) hcap (by omega) HL5.left hgB)
                      have hh : (hdr t pn).length = (enc t).length + (enc pn).length := by simp [hdr]
                      have V1 := hidden (fun wx => varSize_any t wx t0 t1)
                      have V2 := hidden (fun wx => varSize_any pn wx (by omega) (by omega))
                      have e1 := enc_len t
                      have e2 := enc_len pn
                      have HL6 := hidden (show ∀ W : World, W.heap[g]? = some (.cells gc 5 (0, 0)) → Lies W g (off + (hdr t pn).length) px from fun W hW => by
                        have := HG.out W hW
                        rw [hr] at this
                        have := this.left.right.right
                        rwa [← HOF.out, Nat.zero_add] at this)
                      obtain ⟨hN, hhN⟩ : ∃ m, (hdr t pn).length = m := ⟨_, rfl⟩
                      obtain ⟨k1, hk1⟩ : ∃ m, (enc t).length = m := ⟨_, rfl⟩
                      obtain ⟨k2, hk2⟩ : ∃ m, (enc pn).length = m := ⟨_, rfl⟩
                      rw [hk1] at V1 hh e1
                      rw [hk2] at V2 hh e2
                      rw [hhN] at C HL6 hh hll
                      have HN := hidden hhN
                      have HH := hidden hh
                      have HLL := hidden hll
                      have d0 : wr.cell? ⟨b0, o0 + k, none⟩ = some (.int .u64 t) := (BK.cell (p := ⟨b0, o0 + k, none⟩) (World.block_lt_of_cell? _ _ hc0)).trans hc0
                      have HC0 := hidden hc0
                      have HC1 := hidden hc1
                      have hkn0 : k < n0 := by omega
                      have hkn1 : k < n1 := by omega
                      have hof : off + hN + pn ≤ 2228224 := by omega
                      have HX := hidden hx1
                      have HS1 := hidden hs1
                      have BK' := hidden BK
                      clear htk hpk hc0 hc1 hx1 hn1 hs1 hr hll hhN hk1 hk2 hh HL4 HL5 BK
                      go_wp2_with fail
                      refine C.out.mono ?_
                      rintro e w7 ⟨a7, rfl, ha7, S7, B7⟩
                      have BB := BK'.out.trans B7
                      have d7 : w7.cell? ⟨b0, o0 + k, none⟩ = some (.int .u64 t) := (BB.cell (p := ⟨b0, o0 + k, none⟩) (World.block_lt_of_cell? _ _ HC0.out)).trans HC0.out
                      have d8 : w7.cell? ⟨b1, o1 + k, none⟩ = some (.slice pa pn pc) := (BB.cell (p := ⟨b1, o1 + k, none⟩) (World.block_lt_of_cell? _ _ HC1.out)).trans HC1.out
                      obtain ⟨en, hen⟩ : ∃ en : Int, ((off + hN + pn : Nat) : Int) = en := ⟨_, rfl⟩
                      have EN := hidden hen
                      have hne : (en != (off : Int) + (k1 : Int) + (k2 : Int) + (pn : Int)) = false := by
                        have := HH.out
                        simp
                        omega
                      rw [hen] at S7
                      have SP := hidden (span_st S7)
                      have S7' := hidden S7
                      clear hen
                      have HA7 := hidden ha7
                      have BB' := hidden BB
                      clear C d0 S7 B7 BB ha7
                      go_wp2_with fail
                      refine (V1.out _).mono ?_
                      rintro e w' ⟨rfl, hw⟩
                      obtain rfl := hw.symm
                      go_wp2_with fail
                      refine (V2.out _).mono ?_
                      rintro e w' ⟨rfl, hw⟩
                      obtain rfl := hw.symm
                      go_wp2_with fail
                      refine SP.out.mono ?_
                      rintro e w' ⟨rfl, dd, hw⟩
                      obtain rfl := hw.symm
                      clear SP V1 V2 d7 d8
                      go_wp2_with fail
                      go_loopg [20] pn (fun q x wx => ∃ j d : Nat, j ≤ pn ∧ q = pn - j ∧ x = .int .i64 j ∧ wx = w7.drewN d)
                      case atStart => exact ⟨0, dd, Nat.zero_le _, rfl, rfl, rfl⟩
                      case round =>
                        obtain ⟨j, d, hj, hq, rfl, hwx⟩ := hrel
                        have HJ := hidden hq
                        have HW := hidden hwx
                        clear hq
                        by_cases hjn : j < pn
                        · obtain ⟨c, hc⟩ : ∃ c, px[j]? = some c := ⟨px[j]'(by rw [HX.out]; exact hjn), List.getElem?_eq_getElem _⟩
                          obtain rfl := HA7.out (by omega)
                          obtain ⟨bb, oo, rfl, hbl, hbc⟩ := HS1.out.resolve_left (fun e => by rw [e] at hc; cases hc)
                          have x1 : wr.cell? ⟨g, off + hN + j, none⟩ = some (.int .u8 c) := by
                            rw [hwx]; exact HL6.out w7 S7'.out.val j c hc
                          have x2 : wr.cell? ⟨bb, oo + j, none⟩ = some (.int .u8 c) := by
                            rw [hwx]; exact (BB'.out.cell (p := ⟨bb, oo + j, none⟩) hbl).trans (hbc j _ (byts_get hc))
                          clear hwx hc hbl hbc
                          go_wp2_with fail
                          go_quiet (fail)
                          go_wp2
                          go_roundg (pn - (j + 1))
                          case measure => have := HJ.out; omega
                          case rel => exact ⟨j + 1, d + nq, by omega, rfl, by go_num, by rw [HW.out]; simp⟩
                        · obtain rfl : pn = j := by omega
                          clear hwx HJ hjn hj
                          go_wp2
                          go_roundg (n - (k + 1))
                          case measure => have := HQ.out; omega
                          case rel =>
                            refine ⟨k + 1, off + hN + pn, off, by omega, rfl, ?_, by go_num, ?_, ?_, ?_⟩
                            · have := HH.out
                              congr 1
                              omega
                            · show off + hN + pn = _
                              rw [E1.out]
                              simp only [List.length_append]
                              rw [← HOF.out, HN.out, HX.out]
                              omega
                            · rw [HW.out]
                              have := S7'.out
                              rw [← EN.out] at this
                              exact this.later (Nat.le_refl _) (fun _ _ => rfl)
                            · rw [HW.out]
                              exact ⟨BB'.out.os, BB'.out.tape, BB'.out.output, BB'.out.size, BB'.out.block⟩
                    · obtain rfl : n = k := by omega
                      have hLe : (off : Int) = L := by have := HOF.out; have := HLS.out; omega
                      have hLt : ((off : Int) == (L : Int)) = true := by rw [hLe]; simp
                      clear hLe
                      go_wp2
                      go_ret
                      exact ⟨rfl, BK⟩
end Go.Proofs.Qxb6616613aFmt
