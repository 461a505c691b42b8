/-
  Fields.Next, where the element asked for stands next.
-/
import Derived.Test.Qxb6616613aFmtNext
import Derived.Deep.DeepCutAuto
namespace Go.Proofs.Qxb6616613aFmt
open Go.ChangeShapes Go.WideShapes Go.ChangeAt Go.RowKit
set_option linter.unusedVariables false

/-- what Next hands back of an element that stands next -/
def Got (B g fb : Nat) (gc : Array Value) (v : Value) (off hn ln K : Nat) (w : World) (e : Ending) (w' : World) : Prop :=
  ∃ a1, e = .returned (.tuple #[.slice a1 ln ln, .bool true]) ∧ (0 < ln → a1 = some ⟨g, off + hn, none⟩) ∧ St w' B g fb gc v ((off + hn + ln : Nat) : Int) (off : Int) (K + 1) ∧ Below B w w'

/-- what stands behind the reading of the element -/
def Read17 (B g fb : Nat) (gc : Array Value) (v : Value) (off hn ln N K : Nat) (b t : Int) (w0 : World) (x14 x15 x16 : Value) (w : World) : Prop :=
  ∃ x a1 a2 rl c2, x14 = .pointer (some ⟨x, 0, none⟩) ∧ x15 = .slice a2 rl c2 ∧ x16 = .nilIface ∧ off + hn + ln + rl = N ∧ (0 < ln → a1 = some ⟨g, off + hn, none⟩) ∧
    w.heap[x]? = some (.cells #[.int .u64 t, .slice a1 ln ln] 55 (0, 0)) ∧ St w B g fb gc v (off : Int) b K ∧ Below B w0 w

/-- the element read: what is known of it, whatever stood beside -/
def Has (g off hn ln N : Nat) (t : Int) (w1 : World) (e : Ending) (w' : World) : Prop :=
  ∃ a1 a2 rl c2, e = .returned (.tuple #[.agg #[.int .u64 t, .slice a1 ln ln], .slice a2 rl c2, .nilIface]) ∧ off + hn + ln + rl = N ∧ (0 < ln → a1 = some ⟨g, off + hn, none⟩) ∧ Below w1.heap.size w1 w'
/-- and where the variable's block was laid first -/
def Has2 (g off hn ln N : Nat) (t : Int) (w1 : World) (e : Ending) (w' : World) : Prop :=
  ∃ a1 a2 rl c2, e = .returned (.tuple #[.agg #[.int .u64 t, .slice a1 ln ln], .slice a2 rl c2, .nilIface]) ∧ off + hn + ln + rl = N ∧ (0 < ln → a1 = some ⟨g, off + hn, none⟩) ∧ Below w1.heap.size w1 w' ∧
    w'.cell? ⟨w1.heap.size, 0, none⟩ = some (.int .u64 0) ∧ w'.cell? ⟨w1.heap.size, 1, none⟩ = some (.slice none 0 0) ∧ w'.frozen? ⟨w1.heap.size, 0, none⟩ = false ∧ w'.frozen? ⟨w1.heap.size, 1, none⟩ = false ∧
    Hid (w'.heap[w1.heap.size]? = some (.cells #[.int .u64 0, .slice none 0 0] 55 (0, 0)))

theorem has_of {g off hn ln N : Nat} {t : Int} {w1 : World} {d : Nat} {e : Ending} {w' : World} (hle : off + hn + ln ≤ N) (h : Elem g off (N - off) t hn ln (w1.drewN d) e w') : Has g off hn ln N t w1 e w' := by
  obtain ⟨a1, a2, rl, c2, he, hr, ha, hw⟩ := h
  refine ⟨a1, a2, rl, c2, he, by omega, ha, ?_⟩
  rw [hw]
  have b1 : Below w1.heap.size w1 (w1.drewN d) := ⟨rfl, rfl, rfl, Nat.le_refl _, fun _ _ => rfl⟩
  exact (b1.alloc (by simp) _).drew

theorem has2_of {g off hn ln N : Nat} {t : Int} {w1 : World} {d : Nat} {e : Ending} {w' : World} (hle : off + hn + ln ≤ N) (h : Elem g off (N - off) t hn ln ((w1.drewN d).alloc (.cells #[.int .u64 0, .slice none 0 0] 55)) e w') : Has2 g off hn ln N t w1 e w' := by
  obtain ⟨a1, a2, rl, c2, he, hr, ha, hw⟩ := h
  have b1 : Below w1.heap.size w1 (w1.drewN d) := ⟨rfl, rfl, rfl, Nat.le_refl _, fun _ _ => rfl⟩
  have hx : w'.heap[w1.heap.size]? = some (.cells #[.int .u64 0, .slice none 0 0] 55 (0, 0)) := by
    rw [hw]
    show (((w1.drewN d).alloc _).alloc _).heap[w1.heap.size]? = _
    rw [Below.heap_alloc _ _ _ (by simp)]
    have := heap_alloc_new (w1.drewN d) (.cells #[.int .u64 0, .slice none 0 0] 55 (0, 0))
    simpa using this
  refine ⟨a1, a2, rl, c2, he, by omega, ha, ?_, ?_, ?_, ?_, ?_, hx⟩
  · rw [hw]
    exact ((b1.alloc (by simp) _).alloc (by simp) _).drew
  · rw [cell_of_row w' _ 0 _ 55 (0, 0) hx]; rfl
  · rw [cell_of_row w' _ 1 _ 55 (0, 0) hx]; rfl
  · simp [World.frozen?, hx]
  · simp [World.frozen?, hx]

theorem read17_a {B g fb : Nat} {gc : Array Value} {v : Value} {off hn ln N K : Nat} {b t : Int} {w0 w1 w2 : World} {a1 a2 : Option Addr} {rl c2 : Nat} (HS : Hid (St w1 B g fb gc v (off : Int) b K)) (HB : Hid (Below B w0 w1)) (hB2 : Below w1.heap.size w1 w2)
    (hrl : off + hn + ln + rl = N) (ha1 : 0 < ln → a1 = some ⟨g, off + hn, none⟩) :
    Read17 B g fb gc v off hn ln N K b t w0 (.pointer (some ⟨w2.heap.size, 0, none⟩)) (.slice a2 rl c2) .nilIface (w2.alloc (.cells #[.int .u64 t, .slice a1 ln ln] 55)) := by
  have hlow := HS.out.low
  refine ⟨w2.heap.size, a1, a2, rl, c2, rfl, rfl, rfl, hrl, ha1, heap_alloc_new w2 _, ?_, ?_⟩
  · exact HS.out.later (by have := hB2.size; simp; omega) (fun k hk => (Below.heap_alloc _ _ _ (Nat.lt_of_lt_of_le hk hB2.size)).trans (hB2.block k hk))
  · exact (HB.out.trans (hB2.mono hlow)).alloc (Nat.le_trans hlow hB2.size) _
theorem read17_b {B g fb : Nat} {gc : Array Value} {v : Value} {off hn ln N K : Nat} {b t : Int} {w0 w1 w2 : World} {a1 a2 : Option Addr} {rl c2 : Nat} (HS : Hid (St w1 B g fb gc v (off : Int) b K)) (HB : Hid (Below B w0 w1)) (hB2 : Below w1.heap.size w1 w2)
    (hrl : off + hn + ln + rl = N) (ha1 : 0 < ln → a1 = some ⟨g, off + hn, none⟩) (hx : Hid (w2.heap[w1.heap.size]? = some (.cells #[.int .u64 0, .slice none 0 0] 55 (0, 0)))) :
    Read17 B g fb gc v off hn ln N K b t w0 (.pointer (some ⟨w1.heap.size, 0, none⟩)) (.slice a2 rl c2) .nilIface ((w2.setCell ⟨w1.heap.size, 0, none⟩ (.int .u64 t)).setCell ⟨w1.heap.size, 1, none⟩ (.slice a1 ln ln)) := by
  have hlow := HS.out.low
  have q1 := heap_setCell_same w2 w1.heap.size 0 _ 55 (.int .u64 t) hx.out
  have q2 := heap_setCell_same _ w1.heap.size 1 _ 55 (.slice a1 ln ln) q1
  refine ⟨w1.heap.size, a1, a2, rl, c2, rfl, rfl, rfl, hrl, ha1, ?_, ?_, ?_⟩
  · rw [q2]; rfl
  · exact HS.out.later (by have := hB2.size; simpa using this) (fun k hk => by
      rw [Below.heap_setCell _ _ _ _ (show k ≠ _ from Nat.ne_of_lt hk), Below.heap_setCell _ _ _ _ (show k ≠ _ from Nat.ne_of_lt hk)]
      exact hB2.block k hk)
  · exact ((HB.out.trans (hB2.mono hlow)).setCell (by exact hlow) _).setCell (by exact hlow) _

set_option maxHeartbeats 8000000 in
set_option maxRecDepth 100000 in
theorem next_ok {w : World} {B g fb : Nat} {gc : Array Value} {N cap : Nat} {off : Nat} {b : Int} {K : Nat} (t : Int) (ln : Nat)
    (h : St w B g fb gc (.slice (some ⟨g, 0, none⟩) N cap) (off : Int) b K) (hK : K ≤ 100000) (ht : 1 ≤ t) (ht2 : t ≤ 4294967295) (hN : N ≤ 100000000) (hcap : N ≤ cap)
    (hle : off + (hdr t ln).length + ln ≤ N) (hc : Lies w g off (hdr t ln)) (hgB : B ≤ g) :
    Calls Tryf.prog 9 #[.pointer (some ⟨fb, 0, none⟩), .int .u64 t] w fun e w' => Got B g fb gc (.slice (some ⟨g, 0, none⟩) N cap) off (hdr t ln).length ln K w e w' := by
  have e1 := enc_len t
  have e2 := enc_len ln
  have hh : (hdr t ln).length = (enc t).length + (enc ln).length := by simp [hdr]
  have h2 : 2 ≤ (hdr t ln).length := by omega
  have HL : Hid (∀ w' : World, w'.heap[g]? = w.heap[g]? → Lies w' g off (hdr t ln)) := fun w' hw j c hj => (World.cell?_of_block (w := w) (w' := w') (a := ⟨g, off + j, none⟩) hw).trans (hc j c hj)
  obtain ⟨hn, hhn⟩ : ∃ k, (hdr t ln).length = k := ⟨_, rfl⟩
  have HN := hidden hhn
  rw [hhn] at hle h2 ⊢
  have C1 := hidden (add_any h t (by omega) hK)
  have HV := hidden h.val
  clear h hc e1 e2 hh hhn
  go_enter Tryf.func9, Tryf.ntmps9
  go_wp2_with fail
  refine C1.out.mono ?_
  rintro e w1 ⟨rfl, S1, B1⟩
  obtain ⟨l0, l1, l2, l3, m, mn, L, hf, hm, hmK⟩ := S1.rest
  obtain ⟨c0, c1, c2, c3, c4, c5, c6, c7, c8, c9, c11, fz⟩ := FC_get _ _ _ _ _ _ _ _ _ _ _ hf
  have I1 := hidden (index_nil t w1)
  have ltf : fb < w1.heap.size := block_lt hf
  have HS := hidden S1
  clear C1 S1 c5 c6 c7 c8 c9 hf hm
  go_wp2_with fail
  refine I1.out.mono ?_
  rintro e w' ⟨rfl, hw⟩
  obtain rfl := hw.symm
  clear I1
  have HB := hidden B1
  have HE : Hid (∀ W : World, W.heap[g]? = w1.heap[g]? → Calls Tryf.prog 21 #[.slice (some ⟨g, off, none⟩) (N - off) (cap - off)] W fun e w' => Elem g off (N - off) t hn ln W e w') := fun W hW => by
    have hg1 : w1.heap[g]? = w.heap[g]? := HS.out.val.trans HV.out.symm
    have := readElement_ok g off (N - off) (cap - off) t ln W ht ht2 (by rw [HN.out]; omega) (by omega) (by omega) (block_lt (hW.trans HS.out.val)) (HL.out W (hW.trans hg1))
    rwa [HN.out] at this
  have HD : Hid (∀ d : Nat, Calls Tryf.prog 21 #[.slice (some ⟨g, off, none⟩) (N - off) (cap - off)] (w1.drewN d) fun e w' => Has g off hn ln N t w1 e w') := fun d => (HE.out (w1.drewN d) (by simp)).mono fun e w' h => has_of hle h
  have HD2 : Hid (∀ d : Nat, Calls Tryf.prog 21 #[.slice (some ⟨g, off, none⟩) (N - off) (cap - off)] ((w1.drewN d).alloc (.cells #[.int .u64 0, .slice none 0 0] 55)) fun e w' => Has2 g off hn ln N t w1 e w') := fun d =>
    (HE.out ((w1.drewN d).alloc (.cells #[.int .u64 0, .slice none 0 0] 55)) ((Below.heap_alloc _ _ _ (by simp; exact block_lt HS.out.val)).trans (by simp))).mono fun e w' h => has2_of hle h
  clear HE
  have g0 : ∀ d o, ((w1.drewN d).alloc o).cell? ⟨fb, 0, none⟩ = some (.slice (some ⟨g, 0, none⟩) N cap) := fun d o => (World.cell?_alloc_lt _ o ⟨fb, 0, none⟩ (by exact ltf)).trans c0
  have g2 : ∀ d o, ((w1.drewN d).alloc o).cell? ⟨fb, 2, none⟩ = some (.int .i64 off) := fun d o => (World.cell?_alloc_lt _ o ⟨fb, 2, none⟩ (by exact ltf)).trans c2
  have d1 : (off : Int) < N := by omega
  have d2 : ¬ cap = off := by omega
  have d3 : off ≤ N := by omega
  clear B1 hmK
  go_wp2_with fail
  go_loopg [4, 5, 14, 15, 16] 0 (fun q x4 x5 x14 x15 x16 wx => w1 = wx)
  case atStart => exact rfl
  case round =>
    obtain rfl := hrel
    go_wp2_with fail
    go_quiet (fail)
    go_wp2_with fail
    go_cut [14, 15, 16] (fun x14 x15 x16 wx => Read17 B g fb gc (.slice (some ⟨g, 0, none⟩) N cap) off hn ln N (K + 1) b t w x14 x15 x16 wx)
    case first =>
      go_region_with (
        go_at_call 21
        first
          | (refine (HD.out _).mono ?_; rintro e w2 ⟨a1, a2, rl, c2, rfl, hrl, ha1, hB2⟩)
          | (refine (HD2.out _).mono ?_; rintro e w2 ⟨a1, a2, rl, c2, rfl, hrl, ha1, hB2, x0, x1, f0, f1, hx⟩))
      all_goals
        go_wp2
        go_meet
        first
          | exact read17_a HS HB hB2 hrl ha1
          | exact read17_b HS HB hB2 hrl ha1 hx
    case rest =>
      obtain ⟨x, a1, a2, rl, c2', rfl, rfl, rfl, hr, ha1, hx, S2, B2⟩ := hcut
      have RS := S2.rest
      obtain ⟨p0, p1, p2, p3, m', mn', L', hf', hm', hmK'⟩ := RS
      obtain ⟨q0, q1, q2, q3, q4, q5, q6, q7, q8, q9, q11, qf⟩ := FC_get _ _ _ _ _ _ _ _ _ _ _ hf'
      have f4 := qf 4
      have k0 : wc.cell? ⟨x, 0, none⟩ = some (.int .u64 t) := by rw [cell_of_row wc x 0 _ 55 (0, 0) hx]; rfl
      have hxf : x ≠ fb := fun e => by
        rw [e, hf'] at hx
        injection hx with hx
        injection hx with _ h2 _
        cases h2
      have hxf' : fb ≠ x := fun e => hxf e.symm
      have T : Hid (Calls Tryf.prog 22 #[.pointer (some ⟨fb, 0, none⟩), .int .i64 off, .int .i64 ((off + hn + ln : Nat) : Int)] (wc.setCell ⟨fb, 4, none⟩ (.slice none 0 0)).drew fun e w3 => e = .returned (.tuple #[]) ∧ w3.cell? ⟨x, 1, none⟩ = some (.slice a1 ln ln) ∧
          Hid (St w3 B g fb gc (.slice (some ⟨g, 0, none⟩) N cap) ((off + hn + ln : Nat) : Int) (off : Int) (K + 1) ∧ Below B w w3)) := by
        have S3 := (S2.turn 4 (.slice none 0 0) (a' := off) (b' := b) (K' := K + 1) (fun l0 l1 l2 l3 m mn L hf hm hK => ⟨l0, l1, l2, l3, m, mn, L, rfl, hm, hK⟩)).drew
        refine (take_st S3 ((off + hn + ln : Nat) : Int) (by omega) (by omega) (by omega)).mono ?_
        rintro e w3 ⟨he, S4, B4, hk4⟩
        refine ⟨he, ?_, S4, ((B2.setCell (p := ⟨fb, 4, none⟩) S2.above (.slice none 0 0)).drew).trans B4⟩
        have hx3 : w3.heap[x]? = some (.cells #[.int .u64 t, .slice a1 ln ln] 55 (0, 0)) := (hk4 x hxf).trans ((Below.heap_setCell wc ⟨fb, 4, none⟩ _ x hxf).trans hx)
        rw [cell_of_row w3 x 1 _ 55 (0, 0) hx3]; rfl
      have hwr : IntKind.i64.wrap ((N : Int) - (rl : Int)) = ((off + hn + ln : Nat) : Int) := by rw [IntKind.wrap_i64]; omega
      have HA := hidden ha1
      obtain ⟨en, hen⟩ : ∃ en : Int, ((off + hn + ln : Nat) : Int) = en := ⟨_, rfl⟩
      have EN := hidden hen
      rw [hen] at T hwr
      clear hen hr S2 B2 hf' hm' hmK' c0 c1 c2 c3 c4 c11 fz g0 g2 HD HD2 HB HS hx q1 q3 q5 q6 q7 q8 q9 q11 qf ha1
      go_wp2_with fail
      go_region_with (go_at_call 22; refine T.out.mono ?_; rintro e w3 ⟨rfl, y1, hy⟩)
      all_goals
        go_wp2
        exact bodyPost_ret (v := .tuple #[.slice a1 ln ln, .bool true]) (by simp [results, Tryf.results9, go_sem]) rfl ⟨a1, rfl, HA.out, by rw [EN.out]; exact hy.out.1, hy.out.2⟩
end Go.Proofs.Qxb6616613aFmt
