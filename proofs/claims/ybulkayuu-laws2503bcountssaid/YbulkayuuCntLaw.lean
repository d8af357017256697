/-
  'Rows.LawS2503BCountsSaid': plan.LawS2503BCounts (function 3): THE ROW.
-/
import Derived.Test.YbulkayuuCnt
import Derived.Deep.Strs
namespace Go.Proofs.Ybulkayuu.lawS2503BCounts
open Go.ChangeShapes Go.WideShapes Go.ChangeAt Go.RowKit
set_option linter.unusedVariables false

theorem own : ownKnob Yba.prog.godebug = none := by kernel_rfl
theorem laidOut : laidOutB Yba.prog = true := by kernel_rfl
theorem cells39 : Yba.prog.cellsOf 39 = 3 := by kernel_rfl
theorem cells5 : Yba.prog.cellsOf 5 = 1 := by kernel_rfl

/-- One context's extensions, opened. -/
theorem open_exts {H : Type} {enc : TypeId × Value → H} {W : World} {held : Bool} {fuel : Nat} {v : Value} {x : DataW H × List MemPlace} (h : DataW.trod enc Yba.prog W 0 (fun _ => true) held fuel 23 [v] = some x) :
    ∃ a l c k m p, v = .slice a l c ∧ l ≤ maxLen ∧ Exts W a l k m p := by
  rcases Go.Deep.open_slice Yba.underlying23 h with ⟨hcs, _⟩ | ⟨a, len, cap, q, n, D, Pl, hcs, hb, hl, hm, hq, _, hx⟩
  · refine ⟨none, 0, 0, fun _ => 0, fun _ => 0, fun _ => 0, by simpa using hcs, by unfold maxLen; omega, fun i hi => absurd hi (by omega)⟩
  · simp only [if_true] at hq
    have each : ∀ i, i < len → ∃ y : Int × Int × Int, W.cell? (a.add (i * 3)) = some (.int .u8 y.1) ∧ W.cell? (a.add (i * 3 + 1)) = some (.int .u8 y.2.1) ∧ W.cell? (a.add (i * 3 + 2)) = some (.int .u8 y.2.2) ∧
        (Lit.int .u8 y.1).wf = true ∧ (Lit.int .u8 y.2.1).wf = true ∧ (Lit.int .u8 y.2.2).wf = true := fun i hi => by
      obtain ⟨cs', h1, h2⟩ := hx i (by omega)
      rw [cells39] at h1
      obtain ⟨_, hlen, hcell⟩ := World.cells?_some h1
      obtain ⟨y0, y1, y2, n', _, _, g0, g1, g2⟩ := Go.Deep.trod_struct3 Yba.underlying39 h2
      match cs', hlen with
      | [v0, v1, v2], _ =>
        simp [cells5] at g0 g1 g2
        obtain ⟨z0, e0, _, w0⟩ := DataW.trod_int Yba.underlying5 g0
        obtain ⟨z1, e1, _, w1⟩ := DataW.trod_int Yba.underlying5 g1
        obtain ⟨z2, e2, _, w2⟩ := DataW.trod_int Yba.underlying5 g2
        simp at e0 e1 e2
        have c0 := hcell 0 (by omega)
        have c1 := hcell 1 (by omega)
        have c2 := hcell 2 (by omega)
        rw [Go.Deep.add_add] at c0 c1 c2
        subst e0 e1 e2
        exact ⟨(z0, z1, z2), by simpa using c0, by simpa using c1, by simpa using c2, w0, w1, w2⟩
    obtain ⟨y, hy⟩ := Go.Deep.choose_lt each
    refine ⟨some a, len, cap, fun i => (y i).1, fun i => (y i).2.1, fun i => (y i).2.2, by simpa using hcs, by omega, fun i hi => ?_⟩
    obtain ⟨b, off, spot⟩ := a
    obtain ⟨c0, c1, c2, w0, w1, w2⟩ := hy i hi
    have hspot : spot = none := by simpa [Addr.add] using World.cell?_spot (hy 0 (by omega)).1
    subst hspot
    rw [add_plain] at c0 c1 c2
    have b0 := bounds_u8 w0
    have b1 := bounds_u8 w1
    have b2 := bounds_u8 w2
    exact ⟨b, off, rfl, World.block_lt_of_cell? _ _ c0, c0, c1, c2, ⟨b0.1, by show (y i).1 < 256; omega⟩, ⟨b1.1, by show (y i).2.1 < 256; omega⟩, b2.1, by show (y i).2.2 < 256; omega⟩

/-! ### THE ROW's STEP -/
set_option maxRecDepth 100000 in
theorem lifted (os : Os) (started : os.Started) (H : Type) (enc : TypeId × Value → H) :
    ReturnsInHanded {} Yba.checked os 3 .any (Rows.lawS2503BCountsSpec.pre6 enc Yba.prog Yba.f3 Rows.lawS2503BCountsRow.domain false) (Rows.lawS2503BCountsSpec.post enc Yba.prog Yba.f3 false true false false) := by
  refine returnsInHanded_of_change (C := Yba.checked) own started (by kernel_rfl) Yba.func3
    (ChangeSpec.witness6 (enc := enc) (C := Yba.checked) false ⟨#[], #[.slice none 0 0], []⟩ 8 (by kernel_rfl) (by kernel_rfl) (by kernel_rfl) (by kernel_rfl)) ?_
  intro W base args ds gs before hval0 hW hcnd _
  have hval : ∀ (j : Nat) t v, Yba.f3.params[j]? = some t → args[j]? = some v → Value.okWide Yba.prog W .any base t v := hval0
  have hW' := hW
  obtain ⟨p, q, hA0, hV, rfl, hfz, hnd⟩ := hW
  have hA : DataW.TrodAll enc Yba.prog W 0 (fun _ => true) true Yba.f3.params.toList args.toList ds p := hA0
  rw [Yba.params3] at hA hval
  obtain ⟨v0, vs0, d0, ds0, p0, q0, hargs, rfl, rfl, h0, r0⟩ := trodAll_cons hA
  obtain ⟨rfl, rfl, rfl⟩ := trodAll_nil r0
  obtain rfl : args = #[v0] := by cases args; simp_all
  obtain ⟨rfl, rfl⟩ := trodVars_none hV
  obtain ⟨a0, len0, cap0, rfl⟩ := okWide_slice Yba.underlying22 (hval 0 22 v0 rfl rfl)
  have k0 := h0
  have lt0 : ∀ x ∈ p0, x.block < W.heap.size := by obtain ⟨m, hm⟩ := k0; exact DataW.trod_lt m _ _ _ hm
  obtain ⟨A, L, C, K, M, P, w0, m0⟩ : ∃ A L C K M P, Ctxs W a0 len0 A L C K M P ∧ len0 ≤ maxLen := by
    obtain ⟨fuel, hf⟩ := h0
    rcases Go.Deep.open_slice1 Yba.underlying22 (by kernel_rfl) hf with ⟨hcs, _⟩ | ⟨x, l, c, q, n, V, D, Pl, hcs, hb, hl, hm, hq, _, hx⟩
    · simp [Value.cells] at hcs
      obtain ⟨rfl, rfl, rfl⟩ := hcs
      exact ⟨fun _ => none, fun _ => 0, fun _ => 0, fun _ _ => 0, fun _ _ => 0, fun _ _ => 0, fun i hi => absurd hi (by omega), by unfold maxLen; omega⟩
    · simp [Value.cells] at hcs
      obtain ⟨rfl, rfl, rfl⟩ := hcs
      simp only [if_true] at hq
      have each : ∀ i, i < len0 → ∃ y : Option Addr × Nat × Nat × (Nat → Int) × (Nat → Int) × (Nat → Int), V i = .slice y.1 y.2.1 y.2.2.1 ∧ y.2.1 ≤ maxLen ∧ Exts W y.1 y.2.1 y.2.2.2.1 y.2.2.2.2.1 y.2.2.2.2.2 := fun i hi => by
        obtain ⟨a, l, c, k, m, p, e1, e2, e3⟩ := open_exts (hx i (by omega)).2
        exact ⟨(a, l, c, k, m, p), e1, e2, e3⟩
      obtain ⟨y, hy⟩ := Go.Deep.choose_lt each
      refine ⟨fun i => (y i).1, fun i => (y i).2.1, fun i => (y i).2.2.1, fun i => (y i).2.2.2.1, fun i => (y i).2.2.2.2.1, fun i => (y i).2.2.2.2.2, fun i hi => ?_, by omega⟩
      obtain ⟨b, off, spot⟩ := x
      have hc := (hx i (by omega)).1
      have hspot : spot = none := by simpa [Addr.add] using World.cell?_spot (hx 0 (by omega)).1
      subst hspot
      rw [add_plain] at hc
      obtain ⟨e1, e2, e3⟩ := hy i hi
      exact ⟨b, off, rfl, World.block_lt_of_cell? _ _ hc, by rw [hc, e1], e2, e3⟩
  clear hA0 hval0
  refine (walk a0 len0 cap0 A L C K M P W w0 m0).mono fun e W' ⟨he, bel⟩ => ?_
  subst he
  exact ⟨_, rfl, _, _, _, [], _, [], hW', trodAll_mk1 (shut_bool Yba.underlying4 _), (trodAll_cons_mk (Below.trod laidOut (by kernel_rfl) (of_decide_eq_true (by kernel_rfl)) k0 bel lt0) trodAll_mk0), rfl, bel.frame _, fun h => by cases h⟩

theorem over : Rows.lawS2503BCountsRow.holds Yba.pinned (OpenSpec.ofChange Rows.lawS2503BCountsSpec) :=
  OpenClaim.holds_of_wide 3 Yba.f3 rfl rfl rfl rfl rfl rfl rfl ⟨rfl, rfl, rfl, rfl, rfl⟩ rfl rfl rfl rfl rfl (by kernel_rfl) Yba.func3 (by kernel_rfl)
    (of_decide_eq_true (by kernel_rfl)) (by unfold Func.isWrapper; first | (rw [if_pos (by decide +kernel)]; kernel_rfl) | (rw [if_neg (by decide +kernel)]; exact ⟨rfl, rfl⟩))
    (fun os started H enc _ => lifted os started H enc)

/-- THE STATEMENT -/
theorem proved : Rows.LawS2503BCountsSaid := over
#print axioms proved
end Go.Proofs.Ybulkayuu.lawS2503BCounts
