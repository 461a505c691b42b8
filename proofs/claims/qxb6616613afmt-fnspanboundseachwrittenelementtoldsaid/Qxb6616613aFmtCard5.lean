/-
  THE CARD OF FnSpanBoundsEachWrittenElement: the row's contract, then the given tie, by the builder's one call.
-/
import Derived.Test.Qxb6616613aFmtLaw5
import Derived.Test.Qxb6616613aFmtCard4
import Derived.Deep.Matrix
namespace Go.Proofs.Qxb6616613aFmt
open Go.ChangeShapes Go.WideShapes Go.ChangeAt Go.RowKit Go.Kit
open Go.Extern.Stop Go.Stop Go.Extern
set_option linter.unusedVariables false

theorem law5 (a0 : Option Addr) (n0 c0 : Nat) (a1 : Option Addr) (n1 c1 : Nat) (w : World) (h0 : n0 ≤ maxLen) (h1 : n1 ≤ maxLen) (ts : List Int) (ps : List Pay) (ht : ts.length = n0) (hl : ps.length = n1) (hy : Tys w a0 ts) (hp : Pls w a1 ps) :
    Calls Tryf.prog 5 #[.slice a0 n0 c0, .slice a1 n1 c1] w fun e w' => e = .returned (.bool true) ∧ Below w.heap.size w w' := by
  by_cases h : 65536 < n0 ∨ 65536 < n1
  · exact law5_long a0 n0 c0 a1 n1 c1 w h0 h1 ps hl hp h
  · exact law5_short a0 n0 c0 a1 n1 c1 w (by omega) (by omega) ts ps ht hl hy hp

theorem spot_none {w : World} {x : Addr} {i : Nat} {v v0 : Value} (h0 : w.cell? (x.add 0) = some v0) (h : w.cell? (x.add i) = some v) : ∃ b of, x = ⟨b, of, none⟩ ∧ w.cell? ⟨b, of + i, none⟩ = some v := by
  obtain ⟨b, of, spot⟩ := x
  have hspot : spot = none := by simpa [Addr.add] using World.cell?_spot h0
  subst hspot
  exact ⟨b, of, rfl, by rw [add_plain] at h; exact h⟩

theorem tys_of {H : Type} {enc : TypeId × Value → H} {W : World} {a0 : Option Addr} {len cap : Nat} {d : DataW H} {p : List MemPlace} (h : DataW.Trod enc Tryf.prog W 0 (fun _ => true) true 23 (.slice a0 len cap) d p) : ∃ ts, ts.length = len ∧ len ≤ maxLen ∧ Tys W a0 ts := by
  obtain ⟨fuel, hf⟩ := h
  rcases open_ints Tryf.underlying23 Tryf.underlying28 (by kernel_rfl) hf with ⟨hcs, _⟩ | ⟨x, l, c, zs, hcs, _, hl, hm, hz, _, hcell, hwz⟩
  · simp [Value.cells] at hcs
    obtain ⟨rfl, rfl, rfl⟩ := hcs
    exact ⟨[], rfl, Nat.zero_le _, fun i t h => by simp at h⟩
  · simp [Value.cells] at hcs
    obtain ⟨rfl, rfl, rfl⟩ := hcs
    simp only [if_true] at hz
    refine ⟨zs.take len, by rw [List.length_take]; omega, Nat.le_trans hl hm, fun i t hi => ?_⟩
    obtain ⟨hlt, hc⟩ := List.getElem?_eq_some_iff.1 hi
    rw [List.length_take] at hlt
    rw [List.getElem_take] at hc
    have h1 := hcell i (by omega)
    have hg : zs.getD i 0 = t := by simp [List.getD, List.getElem?_eq_getElem (show i < zs.length by omega), hc]
    rw [hg] at h1
    obtain ⟨b, of, rfl, h2⟩ := spot_none (hcell 0 (by omega)) h1
    have hw := bounds_u64 (hwz t (hc ▸ List.getElem_mem _))
    exact ⟨b, of, rfl, h2, hw.1, hw.2⟩

theorem pls_of {H : Type} {enc : TypeId × Value → H} {W : World} {a0 : Option Addr} {len cap : Nat} {d : DataW H} {p : List MemPlace} (h : DataW.Trod enc Tryf.prog W 0 (fun _ => true) true 42 (.slice a0 len cap) d p) : ∃ ps, ps.length = len ∧ len ≤ maxLen ∧ Pls W a0 ps := by
  obtain ⟨fuel, hf⟩ := h
  rcases Go.Deep.open_int_rows Tryf.underlying42 Tryf.underlying22 Tryf.underlying5 (by kernel_rfl) (by kernel_rfl) hf with ⟨hcs, _⟩ | ⟨x, l, c, A, L, C, Z, hcs, _, hl, hm, _, hr⟩
  · simp [Value.cells] at hcs
    obtain ⟨rfl, rfl, rfl⟩ := hcs
    exact ⟨[], rfl, Nat.zero_le _, fun i t h => by simp at h⟩
  · simp [Value.cells] at hcs
    obtain ⟨rfl, rfl, rfl⟩ := hcs
    refine ⟨(List.range len).map fun r => ⟨A r, L r, C r, (Z r).take (L r)⟩, by simp, Nat.le_trans hl hm, fun i p hi => ?_⟩
    rw [List.getElem?_map] at hi
    obtain ⟨r, hri, rfl⟩ := Option.map_eq_some_iff.1 hi
    obtain ⟨hlt, hc⟩ := List.getElem?_eq_some_iff.1 hri
    rw [List.length_range] at hlt
    rw [List.getElem_range] at hc
    subst hc
    obtain ⟨q1, q2, q3, q4, q5, q6, q7⟩ := hr i (by omega)
    obtain ⟨b, of, rfl, h2⟩ := spot_none (hr 0 (by omega)).1 q1
    refine ⟨b, of, rfl, h2, ?_, Nat.le_trans q2 q3, fun h => ⟨?_, q6 h⟩, ?_⟩
    · show ((Z i).take (L i)).length = L i
      rw [List.length_take]; omega
    · show L i = 0
      have := q6 h
      omega
    · show Src W (A i) ((Z i).take (L i))
      by_cases h0 : L i = 0
      · exact .inl (by rw [h0]; rfl)
      · cases hA : A i with
        | none => have := q6 hA; omega
        | some a' =>
          obtain ⟨_, hcell⟩ := q7 a' hA
          have h1 := hcell 0 (by omega)
          obtain ⟨b', of', rfl, h3⟩ := spot_none h1 h1
          refine .inr ⟨b', of', rfl, World.block_lt_of_cell? _ _ h3, fun j u hj => ?_⟩
          obtain ⟨c', hcj, rfl⟩ := byts_inv hj
          obtain ⟨hlt', hcc⟩ := List.getElem?_eq_some_iff.1 hcj
          rw [List.length_take] at hlt'
          rw [List.getElem_take] at hcc
          have h4 := hcell j (by omega)
          rw [add_plain] at h4
          rw [h4]
          simp [List.getD, List.getElem?_eq_getElem (show j < (Z i).length by omega), hcc]

theorem laid5_met (os : Os) (args : Array Value) : laidMet Tryf.prog Rows.fnSpanBoundsEachWrittenElementRow.laid ((laidOf Tryf.prog os).forCall (fun _ _ => 0) ⟨#[], args, []⟩).memory := laid4_met os args

set_option maxRecDepth 100000 in
set_option maxHeartbeats 1000000 in
theorem lifted5 (os : Os) (started : os.Started) (H : Type) (enc : TypeId × Value → H) :
    ReturnsInTold none {} Tryf.checked os 5 .any Input.okWide ((OpenSpec.ofChange Rows.fnSpanBoundsEachWrittenElementSpec).preRow enc Tryf.prog Tryf.f5 Rows.fnSpanBoundsEachWrittenElementRow.domain false Rows.fnSpanBoundsEachWrittenElementRow.laid)
      (fun F => ((OpenSpec.ofChange Rows.fnSpanBoundsEachWrittenElementSpec).at F).post enc Tryf.prog Tryf.f5 false true false false) (aloneAtReturn Tryf.prog) nothingAlways := by
  refine returnsInTold_of_row (C := Tryf.checked) (s := OpenSpec.ofChange Rows.fnSpanBoundsEachWrittenElementSpec) (by kernel_rfl) Tryf.own started (by kernel_rfl) Tryf.func5
    (OpenSpec.witness_stopped_at (enc := enc) (C := Tryf.checked) false (laidOf Tryf.prog os) #[.slice none 0 0, .slice none 0 0] rfl (by kernel_rfl) (by kernel_rfl) (by kernel_rfl)
      (OpenSpec.preRow_of_B rfl 8 (by kernel_rfl) (by kernel_rfl) (laid5_met os _))) ?_
  intro F W base args ds gs before _ hF hval0 hW hcnd0 _ _ hL _
  have hval : ∀ (j : Nat) t v, Tryf.f5.params[j]? = some t → args[j]? = some v → Value.okWide Tryf.prog W .any base t v := hval0
  have hW' := hW
  obtain ⟨p, q, hA0, hV0, rfl, hfz, hnd⟩ := hW
  have hA : DataW.TrodAll enc Tryf.prog W 0 (fun _ => true) true Tryf.f5.params.toList args.toList ds p := hA0
  rw [Tryf.params5] at hA hval
  obtain ⟨v0, v1, d0, d1, p0, p1, rfl, rfl, rfl, h0, h1⟩ := trodAll_two hA
  obtain ⟨a0, n0, c0, rfl⟩ := okWide_slice Tryf.underlying23 (hval 0 23 v0 rfl rfl)
  obtain ⟨a1, n1, c1, rfl⟩ := okWide_slice Tryf.underlying42 (hval 1 42 v1 rfl rfl)
  obtain ⟨ts, t1, t2, t3⟩ := tys_of h0
  obtain ⟨ps, s1, s2, s3⟩ := pls_of h1
  have lt0 : ∀ x ∈ p0, x.block < W.heap.size := by obtain ⟨k, hk⟩ := h0; exact DataW.trod_lt k _ _ _ hk
  have lt1 : ∀ x ∈ p1, x.block < W.heap.size := by obtain ⟨k, hk⟩ := h1; exact DataW.trod_lt k _ _ _ hk
  refine (law5 a0 n0 c0 a1 n1 c1 W t2 s2 ts ps t1 s1 t3 s3).mono fun e W' ⟨he, bel⟩ => ?_
  subst he
  have hV : DataW.TrodVars enc Tryf.prog W (fun _ => true) Rows.fnSpanBoundsEachWrittenElementSpec.vars gs q := hV0
  obtain ⟨g1, g2, g3, rfl⟩ := vars3 hV
  exact ⟨_, rfl, _, _, _, [], _, q, hW', trodAll_mk1 (shut_bool Tryf.underlying4 _),
    trodAll_mk2 (Below.trod Tryf.laidOut' (by kernel_rfl) (of_decide_eq_true (by kernel_rfl)) h0 bel lt0) (Below.trod Tryf.laidOut' (by kernel_rfl) (of_decide_eq_true (by kernel_rfl)) h1 bel lt1),
    Below.trodVars Tryf.laidOut' bel (by kernel_rfl) hV, bel.frame _, fun h => by cases h⟩

/-- ████ THE STATEMENT ████ -/
theorem spanBounds : Rows.FnSpanBoundsEachWrittenElementToldSaid :=
  Claim7.holds_of_told_tied_any_at .later 5 Tryf.f5 "fmt.errorf" [] [] _ _ _ _ _ (by kernel_rfl) rfl rfl rfl Tryf.laidOut (by kernel_rfl) rfl ⟨rfl, rfl, rfl, rfl, rfl, rfl, rfl⟩ rfl rfl (by kernel_rfl) (by kernel_rfl) Tryf.func5 (by kernel_rfl)
    (of_decide_eq_true (by kernel_rfl)) (by unfold Func.isWrapper; first | (rw [if_pos (by decide +kernel)]; kernel_rfl) | (rw [if_neg (by decide +kernel)]; exact ⟨rfl, rfl⟩)) Tryf.stops.symm rfl Tryf.stopKnobs.symm (by kernel_rfl)
    (by kernel_rfl) (by kernel_rfl) (by kernel_rfl) (by kernel_rfl) (by kernel_rfl) (by kernel_rfl) (by kernel_rfl) (by kernel_rfl) (by kernel_rfl) rfl (by kernel_rfl) rfl rfl
    rfl rfl
    rfl (by kernel_rfl) (by kernel_rfl) (by kernel_rfl) (by decide) (by kernel_rfl) fnSpanBoundsEachWrittenElement_row_tie
    (OpenClaim.moreEntering_of (by kernel_rfl) (by kernel_rfl) (by kernel_rfl) (by kernel_rfl) (by kernel_rfl) (by kernel_rfl) (by kernel_rfl) (by kernel_rfl) (by kernel_rfl) (by kernel_rfl))
    ⟨_, WideRow.started_initial, Tryf.quiet _⟩
    (fun os started _ H enc _ => lifted5 os started H enc)
end Go.Proofs.Qxb6616613aFmt
