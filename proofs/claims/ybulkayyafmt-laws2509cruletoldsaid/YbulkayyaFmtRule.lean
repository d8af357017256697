/-
  'Rows.LawS2509CRuleToldSaid': curveform.LawS2509CRule (function 3): THE WALK, for every F.
-/
import Derived.Test.YbulkayyaFmtWant
import Derived.Test.YbulkayyaFmtCards
import Derived.ProofKit
import Derived.OpenShut
import Derived.ChangeOld
import Derived.Stop.JoinedAt
import Derived.Stop.JoinedTold
import Derived.SevenToldRow
namespace Go.Proofs.YbulkayyaFmt.lawS2509CRule
open Go.ChangeShapes Go.WideShapes Go.ChangeAt Go.RowKit Go.Kit Go.Extern.Stop Go.Stop Go.Extern Go.Proofs.YbulkayyaFmt.Check

theorem assert28 (a : Addr) (wx : World) : (Instr.typeAssert (.iface 28 (.pointer (some a))) 26 28 true).run Ybaf.prog wx = .ok (.tuple #[.pointer (some a), .bool true]) wx := by kernel_rfl

set_option maxHeartbeats 800000 in
theorem rule_bad (a : Option Addr) (n c : Nat) (r : ByteArray) (w : World) (hW : Calls Ybaf.prog 5 #[.slice a n c] w fun e w' => e = .returned (.tuple #[.string r, .bool true]) ∧ w' = w) (hC : Calls Ybaf.prog 6 #[.slice a n c] w (Bad w r)) :
    Calls Ybaf.prog 3 #[.slice a n c] w fun e w' => e = .returned (.bool true) ∧ Below w.heap.size w w' := by
  have HW : Hid (Calls Ybaf.prog 5 #[.slice a n c] w fun e w' => e = .returned (.tuple #[.string r, .bool true]) ∧ w' = w) := hW
  have HC : Hid (Calls Ybaf.prog 6 #[.slice a n c] w (Bad w r)) := hC
  have hta := assert28
  clear hW hC
  go_enter Ybaf.func3, Ybaf.ntmps3
  go_wp2_with fail
  refine HW.out.mono ?_
  rintro e w' ⟨rfl, e2⟩
  subst e2
  go_wp2_with fail
  refine HC.out.mono ?_
  rintro e w1 ⟨b, rfl, hc, hb⟩
  go_wp2
  go_ret
  exact ⟨rfl, hb⟩

set_option maxHeartbeats 800000 in
theorem rule_good (a : Option Addr) (n c : Nat) (w : World) (hW : Calls Ybaf.prog 5 #[.slice a n c] w fun e w' => e = .returned (.tuple #[.string ⟨#[]⟩, .bool false]) ∧ w' = w) (hC : Calls Ybaf.prog 6 #[.slice a n c] w fun e w' => e = .returned .nilIface ∧ w' = w) :
    Calls Ybaf.prog 3 #[.slice a n c] w fun e w' => e = .returned (.bool true) ∧ Below w.heap.size w w' := by
  have HW : Hid (Calls Ybaf.prog 5 #[.slice a n c] w fun e w' => e = .returned (.tuple #[.string ⟨#[]⟩, .bool false]) ∧ w' = w) := hW
  have HC : Hid (Calls Ybaf.prog 6 #[.slice a n c] w fun e w' => e = .returned .nilIface ∧ w' = w) := hC
  clear hW hC
  go_enter Ybaf.func3, Ybaf.ntmps3
  go_wp2_with fail
  refine HW.out.mono ?_
  rintro e w' ⟨rfl, e2⟩
  subst e2
  go_wp2_with fail
  refine HC.out.mono ?_
  rintro e w' ⟨rfl, e2⟩
  subst e2
  go_wp2
  go_ret
  exact ⟨rfl, Below.refl _ _⟩

/-- What the walk is told of the octets. -/
def Octets (w : World) (a : Option Addr) (n : Nat) (Z : Nat → Int) : Prop :=
  ∀ i, i < n → ∃ b off, a = some ⟨b, off, none⟩ ∧ w.cell? ⟨b, off + i, none⟩ = some (.int .u8 (Z i)) ∧ 0 ≤ Z i ∧ Z i < 256

theorem walk (F : Interp) (a : Option Addr) (n c : Nat) (Z : Nat → Int) (w : World) (hZ : Octets w a n Z) (hn : n ≤ maxLen) (hF : F.answers w.tape) :
    Calls Ybaf.prog 3 #[.slice a n c] w fun e w' => e = .returned (.bool true) ∧ Below w.heap.size w w' := by
  by_cases h0 : n = 0
  · subst h0
    exact rule_bad a 0 c _ w (want_empty a c w) (check_empty F a c w hF)
  obtain ⟨b, off, rfl, c0, x0, x1⟩ := hZ 0 (by omega)
  rw [Nat.add_zero] at c0
  by_cases h1 : n = 1
  · subst h1
    by_cases hx : Z 0 = 1
    · rw [hx] at c0
      exact rule_good _ 1 c w (want_one b off c w c0) (check_one b off c w c0)
    · have e0 : (Z 0 == 1) = false := by simpa using hx
      exact rule_bad _ 1 c _ w (want_other b off c (Z 0) w e0 c0) (check_other F b off c (Z 0) w hF e0 c0)
  obtain ⟨b', off', e, c1, y0, y1⟩ := hZ 1 (by omega)
  cases e
  have h2 : (1 : Int) < (n : Int) := by omega
  by_cases hl : Z 0 = 0 ∧ Z 1 < 128
  · rw [hl.1] at c0
    exact rule_bad _ n c _ w (want_low b off n c (Z 1) w h2 y0 hl.2 c0 c1) (check_low F b off n c (Z 1) w hF h2 hl.2 c0 c1)
  by_cases hh : Z 0 = 255 ∧ 128 ≤ Z 1
  · rw [hh.1] at c0
    exact rule_bad _ n c _ w (want_high b off n c (Z 1) w h2 hh.2 y1 c0 c1) (check_high F b off n c (Z 1) w hF h2 hh.2 c0 c1)
  exact rule_bad _ n c _ w (want_long b off n c (Z 0) (Z 1) w h2 y0 y1 ⟨hl, hh⟩ c0 c1) (check_long F b off n c (Z 0) (Z 1) w hF h2 hn ⟨hl, hh⟩ c0 c1)

theorem own : ownKnob Ybaf.prog.godebug = none := by kernel_rfl
theorem laidOut : laidOutB Ybaf.prog = true := by kernel_rfl

set_option maxRecDepth 100000 in
theorem lifted (os : Os) (started : os.Started) (H : Type) (enc : TypeId × Value → H) :
    ReturnsInTold none {} Ybaf.checked os 3 .any Input.okWide ((OpenSpec.ofChange Rows.lawS2509CRuleSpec).preRow enc Ybaf.prog Ybaf.f3 [] false []) (fun F => ((OpenSpec.ofChange Rows.lawS2509CRuleSpec).at F).post enc Ybaf.prog Ybaf.f3 false true false false) (aloneAtReturn Ybaf.prog) nothingAlways := by
  refine returnsInTold_of_row (C := Ybaf.checked) (s := OpenSpec.ofChange Rows.lawS2509CRuleSpec) (by kernel_rfl) own started (by kernel_rfl) Ybaf.func3
    (OpenSpec.witness_stopped (enc := enc) (C := Ybaf.checked) false ⟨#[], #[.slice none 0 0], []⟩ 8 (by kernel_rfl) (by kernel_rfl) (by kernel_rfl) (by kernel_rfl)) ?_
  intro F W base args ds gs before _ hF hval0 hW _ _ hsz _ _
  have hval : ∀ (j : Nat) t v, Ybaf.f3.params[j]? = some t → args[j]? = some v → Value.okWide Ybaf.prog W .any base t v := hval0
  have hW' := hW
  obtain ⟨p, q, hA0, hV, rfl, hfz, hnd⟩ := hW
  have hA : DataW.TrodAll enc Ybaf.prog W 0 (fun _ => true) true Ybaf.f3.params.toList args.toList ds p := hA0
  rw [Ybaf.params3] at hA hval
  obtain ⟨v0, d0, rfl, rfl, h0⟩ := trodAll_one hA
  obtain ⟨rfl, rfl⟩ := trodVars_none hV
  obtain ⟨a0, len0, cap0, rfl⟩ := okWide_slice Ybaf.underlying22 (hval 0 22 v0 rfl rfl)
  have k0 := h0
  have lt0 : ∀ x ∈ p, x.block < W.heap.size := by obtain ⟨m, hm⟩ := k0; exact DataW.trod_lt m _ _ _ hm
  obtain ⟨Z, w0, m0⟩ : ∃ Z, Octets W a0 len0 Z ∧ len0 ≤ maxLen := by
    obtain ⟨fuel, hf⟩ := h0
    rcases open_ints Ybaf.underlying22 Ybaf.underlying5 (by kernel_rfl) hf with ⟨hcs, _⟩ | ⟨x, l, c, zs, hcs, hb, hl, hm, hz, _, hcell, hwz⟩
    · simp [Value.cells] at hcs
      obtain ⟨rfl, rfl, rfl⟩ := hcs
      exact ⟨fun _ => 0, fun i hi => absurd hi (by omega), by unfold maxLen; omega⟩
    · simp [Value.cells] at hcs
      obtain ⟨rfl, rfl, rfl⟩ := hcs
      refine ⟨fun i => zs.getD i 0, fun i hi => ?_, by omega⟩
      have hz' : zs.length = cap0 := by simpa using hz
      obtain ⟨b, off, spot⟩ := x
      have hc := hcell i (by omega)
      have hspot : spot = none := by simpa [Addr.add] using World.cell?_spot (hcell 0 (by omega))
      subst hspot
      rw [add_plain] at hc
      have hw := bounds_u8 (hwz (zs.getD i 0) (by rw [List.getD_eq_getElem?_getD, List.getElem?_eq_getElem (by omega)]; simp))
      exact ⟨b, off, rfl, hc, hw.1, by show zs.getD i 0 < 256; omega⟩
  clear hA0 hval0
  refine (walk F.told a0 len0 cap0 Z W w0 m0 hF).mono fun e W' ⟨he, bel⟩ => ?_
  subst he
  exact ⟨_, rfl, _, _, _, [], _, [], hW', trodAll_mk1 (shut_bool Ybaf.underlying4 _), trodAll_mk1 (Below.trod laidOut (by kernel_rfl) (of_decide_eq_true (by kernel_rfl)) k0 bel lt0), rfl, bel.frame _, fun h => by cases h⟩

theorem laidOutC : laidOutB Ybaf.pinned.checked.prog = true := by kernel_rfl
theorem stopsC : Ybaf.pinned.checked.prog.stops = Rows.lawS2509CRuleRow.stops := by kernel_rfl
theorem stopKnobs : Ybaf.pinned.checked.prog.stopKnobs = [] := by kernel_rfl
theorem quiet (os : Os) : Stop.quiet Ybaf.pinned.checked.prog os := by
  intro k hk
  rw [stopKnobs] at hk
  cases hk

/-- THE STATEMENT -/
theorem proved : Rows.LawS2509CRuleToldSaid :=
  Claim7.holds_of_told_any 3 Ybaf.f3 _ _ [] _ _ _ (by kernel_rfl) rfl rfl rfl laidOutC (by kernel_rfl) rfl ⟨rfl, rfl, rfl, rfl, rfl, rfl, rfl⟩ rfl rfl (by kernel_rfl) (by kernel_rfl) Ybaf.func3 (by kernel_rfl)
    (of_decide_eq_true (by kernel_rfl)) (by unfold Func.isWrapper; first | (rw [if_pos (by decide +kernel)]; kernel_rfl) | (rw [if_neg (by decide +kernel)]; exact ⟨rfl, rfl⟩)) stopsC.symm rfl stopKnobs.symm (by kernel_rfl)
    (by kernel_rfl) (by kernel_rfl) (by kernel_rfl) (by kernel_rfl) (by kernel_rfl) (by kernel_rfl) (by kernel_rfl) (by kernel_rfl) (by kernel_rfl) rfl (by kernel_rfl) rfl rfl
    rfl rfl
    rfl (by kernel_rfl) (by kernel_rfl) (by kernel_rfl) (by decide) (by kernel_rfl)
    (OpenClaim.moreEntering_of (by kernel_rfl) (by kernel_rfl) (by kernel_rfl) (by kernel_rfl) (by kernel_rfl) (by kernel_rfl) (by kernel_rfl) (by kernel_rfl) (by kernel_rfl) (by kernel_rfl))
    ⟨_, WideRow.started_initial, quiet _⟩
    (fun os started _ H enc _ => lifted os started H enc)
#print axioms proved
end Go.Proofs.YbulkayyaFmt.lawS2509CRule
