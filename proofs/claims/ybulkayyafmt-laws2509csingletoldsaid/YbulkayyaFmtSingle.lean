/-
  'Rows.LawS2509CSingleToldSaid': curveform.LawS2509CSingle (function 4): THE WALK, for every F.
-/
import Derived.Test.YbulkayyaFmtCheck
import Derived.Test.YbulkayyaFmtCards
import Derived.ProofKit
import Derived.OpenShut
import Derived.ChangeOld
import Derived.Stop.JoinedAt
import Derived.Stop.JoinedTold
import Derived.SevenToldRow
namespace Go.Proofs.YbulkayyaFmt.lawS2509CSingle
open Go.ChangeShapes Go.WideShapes Go.ChangeAt Go.RowKit Go.Kit Go.Extern.Stop Go.Stop Go.Extern Go.Proofs.YbulkayyaFmt.Check

set_option maxHeartbeats 800000 in
theorem walk (F : Interp) (x : Int) (hx0 : (Lit.int .u8 x).wf = true) (w : World) (hF : F.answers w.tape) :
    Calls Ybaf.prog 4 #[.int .u8 x] w fun e w' => e = .returned (.bool true) ∧ Below w.heap.size w w' := by
  by_cases hx : x = 1
  · subst hx
    go_enter Ybaf.func4, Ybaf.ntmps4
    go_wp2_with (go_at_call 6; refine (check_one _ _ _ _ (by simp)).mono ?_; rintro e w' ⟨rfl, rfl⟩)
    go_ret
    exact ⟨rfl, (Below.refl _ _).alloc (Nat.le_refl _) _⟩
  · have e0 : (x == 1) = false := by simpa using hx
    clear hx hx0
    go_enter Ybaf.func4, Ybaf.ntmps4
    go_wp2_with (go_at_call 6; refine (check_other F _ _ _ x _ (by exact hF) e0 (by simp)).mono ?_; rintro e w' ⟨b, rfl, hc, hb⟩)
    go_ret
    exact ⟨rfl, ((Below.refl _ _).alloc (Nat.le_refl _) _).trans (hb.mono (by simp))⟩

theorem own : ownKnob Ybaf.prog.godebug = none := by kernel_rfl
theorem laidOut : laidOutB Ybaf.prog = true := by kernel_rfl

set_option maxRecDepth 100000 in
theorem lifted (os : Os) (started : os.Started) (H : Type) (enc : TypeId × Value → H) :
    ReturnsInTold none {} Ybaf.checked os 4 .any Input.okWide ((OpenSpec.ofChange Rows.lawS2509CSingleSpec).preRow enc Ybaf.prog Ybaf.f4 [] false []) (fun F => ((OpenSpec.ofChange Rows.lawS2509CSingleSpec).at F).post enc Ybaf.prog Ybaf.f4 false true false false) (aloneAtReturn Ybaf.prog) nothingAlways := by
  refine returnsInTold_of_row (C := Ybaf.checked) (s := OpenSpec.ofChange Rows.lawS2509CSingleSpec) (by kernel_rfl) own started (by kernel_rfl) Ybaf.func4
    (OpenSpec.witness_stopped (enc := enc) (C := Ybaf.checked) false ⟨#[], #[.int .u8 0], []⟩ 8 (by kernel_rfl) (by kernel_rfl) (by kernel_rfl) (by kernel_rfl)) ?_
  intro F W base args ds gs before _ hF hval0 hW _ _ hsz _ _
  have hval : ∀ (j : Nat) t v, Ybaf.f4.params[j]? = some t → args[j]? = some v → Value.okWide Ybaf.prog W .any base t v := hval0
  have hW' := hW
  obtain ⟨p, q, hA0, hV, rfl, hfz, hnd⟩ := hW
  have hA : DataW.TrodAll enc Ybaf.prog W 0 (fun _ => true) true Ybaf.f4.params.toList args.toList ds p := hA0
  rw [Ybaf.params4] at hA hval
  obtain ⟨v0, d0, rfl, rfl, h0⟩ := trodAll_one hA
  obtain ⟨rfl, rfl⟩ := trodVars_none hV
  obtain ⟨x, rfl, rfl, rfl, wx⟩ := open_int Ybaf.underlying5 (hval 0 5 v0 rfl rfl) h0
  clear hA0 hval0
  refine (walk F.told x wx W hF).mono fun e W' ⟨he, bel⟩ => ?_
  subst he
  exact ⟨_, rfl, _, _, _, [], _, [], hW', trodAll_mk1 (shut_bool Ybaf.underlying4 _), trodAll_mk1 (shut_int Ybaf.underlying5 wx), rfl, bel.frame _, fun h => by cases h⟩

theorem laidOutC : laidOutB Ybaf.pinned.checked.prog = true := by kernel_rfl
theorem stopsC : Ybaf.pinned.checked.prog.stops = Rows.lawS2509CSingleRow.stops := by kernel_rfl
theorem stopKnobs : Ybaf.pinned.checked.prog.stopKnobs = [] := by kernel_rfl
theorem quiet (os : Os) : Stop.quiet Ybaf.pinned.checked.prog os := by
  intro k hk
  rw [stopKnobs] at hk
  cases hk

/-- THE STATEMENT -/
theorem proved : Rows.LawS2509CSingleToldSaid :=
  Claim7.holds_of_told_any 4 Ybaf.f4 _ _ [] _ _ _ (by kernel_rfl) rfl rfl rfl laidOutC (by kernel_rfl) rfl ⟨rfl, rfl, rfl, rfl, rfl, rfl, rfl⟩ rfl rfl (by kernel_rfl) (by kernel_rfl) Ybaf.func4 (by kernel_rfl)
    (of_decide_eq_true (by kernel_rfl)) (by unfold Func.isWrapper; first | (rw [if_pos (by decide +kernel)]; kernel_rfl) | (rw [if_neg (by decide +kernel)]; exact ⟨rfl, rfl⟩)) stopsC.symm rfl stopKnobs.symm (by kernel_rfl)
    (by kernel_rfl) (by kernel_rfl) (by kernel_rfl) (by kernel_rfl) (by kernel_rfl) (by kernel_rfl) (by kernel_rfl) (by kernel_rfl) (by kernel_rfl) rfl (by kernel_rfl) rfl rfl
    rfl rfl
    rfl (by kernel_rfl) (by kernel_rfl) (by kernel_rfl) (by decide) (by kernel_rfl)
    (OpenClaim.moreEntering_of (by kernel_rfl) (by kernel_rfl) (by kernel_rfl) (by kernel_rfl) (by kernel_rfl) (by kernel_rfl) (by kernel_rfl) (by kernel_rfl) (by kernel_rfl) (by kernel_rfl))
    ⟨_, WideRow.started_initial, quiet _⟩
    (fun os started _ H enc _ => lifted os started H enc)
#print axioms proved
end Go.Proofs.YbulkayyaFmt.lawS2509CSingle
