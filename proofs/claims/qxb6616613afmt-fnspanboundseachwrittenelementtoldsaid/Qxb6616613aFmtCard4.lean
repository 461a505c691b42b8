/-
  THE CARD OF FnAppendHeaderReadsBack: the row's contract at fmt's told texts, then the given tie, by the builder's one call.
-/
import Derived.Test.Qxb6616613aFmtLaw4
import Derived.Test.Qxb6616613aFmtLaid
import Derived.Test.Qxb6616613aFmtTie
import Derived.Test.Qxb6616613aFmtCards
import Derived.OpenShut
namespace Go.Proofs.Qxb6616613aFmt
open Go.ChangeShapes Go.WideShapes Go.ChangeAt Go.RowKit Go.Kit
open Go.Extern.Stop Go.Stop Go.Extern
set_option linter.unusedVariables false

/-- WHAT THE WALK IS TOLD OF A SLICE OF BYTES THAT CAME IN -/
def IsRow (w : World) (a : Option Addr) (len cap : Nat) (zs : List Int) : Prop :=
  (a = none ∧ len = 0 ∧ cap = 0 ∧ zs = []) ∨
  ∃ x, a = some x ∧ len ≤ cap ∧ cap ≤ maxLen ∧ zs.length = cap ∧ (∀ i, i < zs.length → w.cell? (x.add i) = some (.int .u8 (zs.getD i 0))) ∧ ∀ n ∈ zs, (Lit.int .u8 n).wf = true

theorem srcOf {w : World} {a : Option Addr} {len cap : Nat} {zs : List Int} (h : IsRow w a len cap zs) : Src w a (zs.take len) ∧ (zs.take len).length = len ∧ (a = none → len = 0 ∧ cap = 0) ∧ len ≤ maxLen := by
  rcases h with ⟨rfl, rfl, rfl, rfl⟩ | ⟨x, rfl, hl, hm, hz, hc, _⟩
  · exact ⟨.inl rfl, rfl, fun _ => ⟨rfl, rfl⟩, Nat.zero_le _⟩
  · refine ⟨?_, by rw [List.length_take]; omega, (fun h => by cases h), Nat.le_trans hl hm⟩
    by_cases h0 : len = 0
    · subst h0; exact .inl rfl
    · obtain ⟨b, of, spot⟩ := x
      have h1 := hc 0 (by omega)
      have hspot : spot = none := by simpa [Addr.add] using World.cell?_spot h1
      subst hspot
      refine .inr ⟨b, of, rfl, ?_, fun j u hj => ?_⟩
      · have := World.block_lt_of_cell? _ _ h1
        simpa [Addr.add] using this
      · obtain ⟨c, hcj, rfl⟩ := byts_inv hj
        obtain ⟨hlt, hcc⟩ := List.getElem?_eq_some_iff.1 hcj
        rw [List.length_take] at hlt
        have := hc j (by omega)
        rw [add_plain] at this
        rw [this]
        rw [List.getElem_take] at hcc
        simp [List.getD, List.getElem?_eq_getElem (show j < zs.length by omega), hcc]

theorem law4 (F : Interp) (a0 : Option Addr) (n c0 : Nat) (z0 : List Int) (t l : Int) (a1 : Option Addr) (m c1 : Nat) (z1 : List Int) (a : Addr) (s : ByteArray) (w : World) (hF : F.answers w.tape)
    (hg : w.cell? ⟨0, 0, none⟩ = some (.iface 78 (.pointer (some a)))) (hs : w.cell? a = some (.string s)) (r0 : IsRow w a0 n c0 z0) (r1 : IsRow w a1 m c1 z1)
    (ht : 0 ≤ t) (ht2 : t ≤ 18446744073709551615) (hl : 0 ≤ l) (hl2 : l ≤ 18446744073709551615) :
    Calls Tryf.prog 4 #[.slice a0 n c0, .int .u64 t, .int .u64 l, .slice a1 m c1] w fun e w' => e = .returned (.bool true) ∧ Below w.heap.size w w' := by
  obtain ⟨s0, l0, n0, b0⟩ := srcOf r0
  obtain ⟨s1, l1, n1, b1⟩ := srcOf r1
  by_cases h : 524288 < n ∨ 524288 < m
  · exact law4_long a0 n c0 t l a1 m c1 w b0 b1 h
  · exact law4_short F a0 n c0 t l a1 m c1 (z0.take n) (z1.take m) a s w hF hg hs (by omega) (by omega) l0 l1 (fun h => (n0 h).1) n1 s0 s1 ht ht2 hl hl2

theorem isRow_of {H : Type} {enc : TypeId × Value → H} {W : World} {a0 : Option Addr} {len cap : Nat} {d : DataW H} {p : List MemPlace} (h : DataW.Trod enc Tryf.prog W 0 (fun _ => true) true 22 (.slice a0 len cap) d p) : ∃ zs, IsRow W a0 len cap zs := by
  obtain ⟨fuel, hf⟩ := h
  rcases open_ints Tryf.underlying22 Tryf.underlying5 (by kernel_rfl) hf with ⟨hcs, _⟩ | ⟨x, l, c, zs, hcs, _, hl, hm, hz, _, hcell, hwz⟩
  · simp [Value.cells] at hcs
    obtain ⟨rfl, rfl, rfl⟩ := hcs
    exact ⟨[], .inl ⟨rfl, rfl, rfl, rfl⟩⟩
  · simp [Value.cells] at hcs
    obtain ⟨rfl, rfl, rfl⟩ := hcs
    exact ⟨zs, .inr ⟨_, rfl, hl, hm, by simpa using hz, hcell, hwz⟩⟩

theorem vars3 {H : Type} {enc : TypeId × Value → H} {P : Program} {w : World} {sp : Nat → Bool} {n0 n1 n2 : String} : ∀ {gs : List (DataW H)} {ps : List MemPlace}, DataW.TrodVars enc P w sp [n0, n1, n2] gs ps → ∃ x y z, gs = [x, y, z]
  | [x, y, z], _, _ => ⟨x, y, z, rfl⟩
  | [], _, h => h.elim
  | [x], _, h => by obtain ⟨_, _, _, _, _, _, _, _, _, _, h, _⟩ := h; exact h.elim
  | [x, y], _, h => by
    obtain ⟨_, _, _, _, _, _, _, _, _, _, h, _⟩ := h
    obtain ⟨_, _, _, _, _, _, _, _, _, _, h, _⟩ := h
    exact h.elim
  | x :: y :: z :: u :: r, _, h => by
    obtain ⟨_, _, _, _, _, _, _, _, _, _, h, _⟩ := h
    obtain ⟨_, _, _, _, _, _, _, _, _, _, h, _⟩ := h
    obtain ⟨_, _, _, _, _, _, _, _, _, _, h, _⟩ := h
    exact h.elim

set_option maxRecDepth 100000 in
set_option maxHeartbeats 1000000 in
theorem lifted4 (os : Os) (started : os.Started) (H : Type) (enc : TypeId × Value → H) :
    ReturnsInTold none {} Tryf.checked os 4 .any Input.okWide ((OpenSpec.ofChange Rows.fnAppendHeaderReadsBackSpec).preRow enc Tryf.prog Tryf.f4 Rows.fnAppendHeaderReadsBackRow.domain false Rows.fnAppendHeaderReadsBackRow.laid)
      (fun F => ((OpenSpec.ofChange Rows.fnAppendHeaderReadsBackSpec).at F).post enc Tryf.prog Tryf.f4 false true false false) (aloneAtReturn Tryf.prog) nothingAlways := by
  refine returnsInTold_of_row (C := Tryf.checked) (s := OpenSpec.ofChange Rows.fnAppendHeaderReadsBackSpec) (by kernel_rfl) Tryf.own started (by kernel_rfl) Tryf.func4
    (OpenSpec.witness_stopped_at (enc := enc) (C := Tryf.checked) false (laidOf Tryf.prog os) #[.slice none 0 0, .int .u64 0, .int .u64 0, .slice none 0 0] rfl (by kernel_rfl) (by kernel_rfl) (by kernel_rfl)
      (OpenSpec.preRow_of_B rfl 8 (by kernel_rfl) (by kernel_rfl) (laid4_met os _))) ?_
  intro F W base args ds gs before _ hF hval0 hW hcnd0 _ _ hL _
  have hval : ∀ (j : Nat) t v, Tryf.f4.params[j]? = some t → args[j]? = some v → Value.okWide Tryf.prog W .any base t v := hval0
  have hW' := hW
  obtain ⟨p, q, hA0, hV0, rfl, hfz, hnd⟩ := hW
  have hA : DataW.TrodAll enc Tryf.prog W 0 (fun _ => true) true Tryf.f4.params.toList args.toList ds p := hA0
  rw [Tryf.params4] at hA hval
  obtain ⟨v0, v1, v2, v3, d0, d1, d2, d3, p0, p1, p2, p3, rfl, rfl, rfl, h0, h1, h2, h3⟩ := trodAll_four hA
  obtain ⟨a0, n0, c0, rfl⟩ := okWide_slice Tryf.underlying22 (hval 0 22 v0 rfl rfl)
  obtain ⟨a3, n3, c3, rfl⟩ := okWide_slice Tryf.underlying22 (hval 3 22 v3 rfl rfl)
  obtain ⟨t, rfl, rfl, rfl, wt⟩ := open_int Tryf.underlying28 (hval 1 28 v1 rfl rfl) h1
  obtain ⟨l, rfl, rfl, rfl, wl⟩ := open_int Tryf.underlying28 (hval 2 28 v2 rfl rfl) h2
  obtain ⟨z0, w0⟩ := isRow_of h0
  obtain ⟨z3, w3⟩ := isRow_of h3
  have lt0 : ∀ x ∈ p0, x.block < W.heap.size := by obtain ⟨k, hk⟩ := h0; exact DataW.trod_lt k _ _ _ hk
  have lt3 : ∀ x ∈ p3, x.block < W.heap.size := by obtain ⟨k, hk⟩ := h3; exact DataW.trod_lt k _ _ _ hk
  obtain ⟨a, s, hg, hs⟩ := malformed hL
  have bt := bounds_u64 wt
  have bl := bounds_u64 wl
  refine (law4 F.told a0 n0 c0 z0 t l a3 n3 c3 z3 a s W hF hg hs w0 w3 bt.1 bt.2 bl.1 bl.2).mono fun e W' ⟨he, bel⟩ => ?_
  subst he
  have hV : DataW.TrodVars enc Tryf.prog W (fun _ => true) Rows.fnAppendHeaderReadsBackSpec.vars gs q := hV0
  obtain ⟨g1, g2, g3, rfl⟩ := vars3 hV
  exact ⟨_, rfl, _, _, _, [], _, q, hW', trodAll_mk1 (shut_bool Tryf.underlying4 _),
    trodAll_mk4 (Below.trod Tryf.laidOut' (by kernel_rfl) (of_decide_eq_true (by kernel_rfl)) h0 bel lt0) (shut_int Tryf.underlying28 wt) (shut_int Tryf.underlying28 wl) (Below.trod Tryf.laidOut' (by kernel_rfl) (of_decide_eq_true (by kernel_rfl)) h3 bel lt3),
    Below.trodVars Tryf.laidOut' bel (by kernel_rfl) hV, bel.frame _, fun h => by cases h⟩

/-- ████ THE STATEMENT ████ -/
theorem headerReadsBack : Rows.FnAppendHeaderReadsBackToldSaid :=
  Claim7.holds_of_told_tied_any_at .later 4 Tryf.f4 "fmt.errorf" [] [] _ _ _ _ _ (by kernel_rfl) rfl rfl rfl Tryf.laidOut (by kernel_rfl) rfl ⟨rfl, rfl, rfl, rfl, rfl, rfl, rfl⟩ rfl rfl (by kernel_rfl) (by kernel_rfl) Tryf.func4 (by kernel_rfl)
    (of_decide_eq_true (by kernel_rfl)) (by unfold Func.isWrapper; first | (rw [if_pos (by decide +kernel)]; kernel_rfl) | (rw [if_neg (by decide +kernel)]; exact ⟨rfl, rfl⟩)) Tryf.stops.symm rfl Tryf.stopKnobs.symm (by kernel_rfl)
    (by kernel_rfl) (by kernel_rfl) (by kernel_rfl) (by kernel_rfl) (by kernel_rfl) (by kernel_rfl) (by kernel_rfl) (by kernel_rfl) (by kernel_rfl) rfl (by kernel_rfl) rfl rfl
    rfl rfl
    rfl (by kernel_rfl) (by kernel_rfl) (by kernel_rfl) (by decide) (by kernel_rfl) fnAppendHeaderReadsBack_row_tie
    (OpenClaim.moreEntering_of (by kernel_rfl) (by kernel_rfl) (by kernel_rfl) (by kernel_rfl) (by kernel_rfl) (by kernel_rfl) (by kernel_rfl) (by kernel_rfl) (by kernel_rfl) (by kernel_rfl))
    ⟨_, WideRow.started_initial, Tryf.quiet _⟩
    (fun os started _ H enc _ => lifted4 os started H enc)
end Go.Proofs.Qxb6616613aFmt
