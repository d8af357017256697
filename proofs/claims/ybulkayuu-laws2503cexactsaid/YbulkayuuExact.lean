/-
  'Rows.LawS2503CExactSaid': conf.LawS2503CExact (function 5) out of foldCase's contract.
-/
import Derived.Test.YbulkayuuFold
import Derived.OpenShut
import Derived.ShutString
import Derived.ChangeOld
import Derived.Deep.QuietTactic
import Derived.BigQuiet
import Derived.WalkSmall
namespace Go.Proofs.Ybulkayuu.lawS2503CExact
open Go.ChangeShapes Go.WideShapes Go.ChangeAt Go.RowKit Go.Proofs.Ybulkayuu.Fold
open Go.ChangeMaps (open_string shut_string)
set_option linter.unusedVariables false

theorem own : ownKnob Yba.prog.godebug = none := by kernel_rfl
theorem laidOut : laidOutB Yba.prog = true := by kernel_rfl

/-- zzs2503cfold on a number. -/
def fz (v : Int) : Int := if 65 ≤ v ∧ v ≤ 90 then v + 32 else v
theorem fz_fb (c : UInt8) : fz (c.toNat : Int) = ((fb c).toNat : Int) := by
  unfold fz
  by_cases h : 65 ≤ c.toNat ∧ c.toNat ≤ 90
  · rw [if_pos (by omega), fb_hit h.1 h.2]; omega
  · rw [if_neg (by omega), fb_miss h]

theorem cfold_any (v : Int) (w : World) (h0 : 0 ≤ v) (h1 : v < 256) :
    Calls Yba.prog 13 #[.int .u8 v] w fun e w' => e = .returned (.int .u8 (fz v)) ∧ w' = w := by
  by_cases h : 65 ≤ v ∧ v ≤ 90
  · have e : fz v = v + 32 := if_pos h
    rw [e]
    obtain ⟨ha, hb⟩ := h
    clear e
    go_enter Yba.func13, Yba.ntmps13
    go_wp2
    go_ret
    exact ⟨rfl, rfl⟩
  · have e : fz v = v := if_neg h
    rw [e]
    rcases (show v < 65 ∨ 90 < v from by omega) with h | h
    all_goals
      clear e
      go_enter Yba.func13, Yba.ntmps13
      go_wp2
      go_ret
      exact ⟨rfl, rfl⟩

theorem cfold_u (c : UInt8) (w : World) : Calls Yba.prog 13 #[.int .u8 (c.toNat : Int)] w fun e w' => e = .returned (.int .u8 ((fb c).toNat : Int)) ∧ w' = w := by
  rw [← fz_fb]
  exact cfold_any _ w (by omega) (by have := c.toNat_lt; omega)

theorem exact_at {s g : ByteArray} (h : g = fold s) {k : Nat} (h1 : k < g.size) (h2 : k < s.size) : (((g[k]).toNat : Int) != (((fb s[k]).toNat : Nat) : Int)) = false := by
  subst h
  rw [fold_at s k h2 h1]
  simp

set_option maxHeartbeats 800000 in
theorem walk (s : ByteArray) (hs : s.size ≤ maxLen) (w : World) :
    Calls Yba.prog 5 #[.string s] w fun e w' => e = .returned (.bool true) ∧ Below w.heap.size w w' := by
  have hm := hs
  unfold maxLen at hm
  by_cases hbig : (4096 : Int) < (s.size : Int)
  · go_enter Yba.func5, Yba.ntmps5
    go_wp2
    go_ret
    exact ⟨rfl, Below.refl _ _⟩
  · have hsz := fold_size s
    obtain ⟨g, hg⟩ : ∃ g, g = fold s := ⟨_, rfl⟩
    have hF : Calls Yba.prog 12 #[.string s] w fun e w' => e = .returned (.string g) ∧ Below w.heap.size w w' := by rw [hg]; exact foldCase_any s w hs
    have hgs : g.size = s.size := by rw [hg]; exact hsz
    have HG : Hid (g = fold s) := hg
    have HF : Hid (Calls Yba.prog 12 #[.string s] w fun e w' => e = .returned (.string g) ∧ Below w.heap.size w w') := hF
    clear hF hg hsz
    go_enter Yba.func5, Yba.ntmps5
    go_wp2_with fail
    refine HF.out.mono ?_
    rintro e w1 ⟨rfl, hb1⟩
    have hne : ((g.size : Int) != (s.size : Int)) = false := by rw [hgs]; simp
    go_wp2
    go_loopw [4] (fun i wr => ∃ k : Nat, k ≤ s.size ∧ i = .int .i64 k ∧ Below w.heap.size w wr) (fun i _ => s.size - (intOf i).toNat)
    case atStart => exact ⟨0, Nat.zero_le _, rfl, hb1⟩
    case round =>
      obtain ⟨k, hk, rfl, hB⟩ := hrel
      by_cases hlt : k < s.size
      · have hlt1 : (k : Int) < (s.size : Int) := by omega
        have hlt2 : (k : Int) < (g.size : Int) := by omega
        have hq1 : k < g.size := by omega
        have hx := exact_at HG.out hq1 hlt
        go_wp2
        go_quiet ((go_at_call 13; exact Calls.quiet_of_same (cfold_u _ _)))
        go_wp2
        go_roundw
        case rel => exact ⟨k + 1, by omega, by go_num, below_drewN hB _⟩
        case measure => simp [intOf]; omega
      · go_wp2
        go_ret
        exact ⟨rfl, hB⟩

/-! ### THE ROW's STEP -/
set_option maxRecDepth 100000 in
theorem lifted (os : Os) (started : os.Started) (H : Type) (enc : TypeId × Value → H) :
    ReturnsInHanded {} Yba.checked os 5 .any (Rows.lawS2503CExactSpec.pre6 enc Yba.prog Yba.f5 Rows.lawS2503CExactRow.domain false) (Rows.lawS2503CExactSpec.post enc Yba.prog Yba.f5 false true false false) := by
  refine returnsInHanded_of_change (C := Yba.checked) own started (by kernel_rfl) Yba.func5
    (ChangeSpec.witness6 (enc := enc) (C := Yba.checked) false ⟨#[], #[.string ByteArray.empty], []⟩ 8 (by kernel_rfl) (by kernel_rfl) (by kernel_rfl) (by kernel_rfl)) ?_
  intro W base args ds gs before hval0 hW hcnd _
  have hval : ∀ (j : Nat) t v, Yba.f5.params[j]? = some t → args[j]? = some v → Value.okWide Yba.prog W .any base t v := hval0
  have hW' := hW
  obtain ⟨p, q, hA0, hV, rfl, hfz, hnd⟩ := hW
  have hA : DataW.TrodAll enc Yba.prog W 0 (fun _ => true) true Yba.f5.params.toList args.toList ds p := hA0
  rw [Yba.params5] at hA hval
  obtain ⟨v0, vs0, d0, ds0, p0, q0, hargs, rfl, rfl, h0, r0⟩ := trodAll_cons hA
  obtain ⟨rfl, rfl, rfl⟩ := trodAll_nil r0
  obtain rfl : args = #[v0] := by cases args; simp_all
  obtain ⟨rfl, rfl⟩ := trodVars_none hV
  obtain ⟨a0, rfl, rfl, rfl, w0⟩ := open_string Yba.underlying9 (hval 0 9 v0 rfl rfl) h0
  clear hA0 hval0
  refine (walk a0 w0 W).mono fun e W' ⟨he, bel⟩ => ?_
  subst he
  exact ⟨_, rfl, _, _, _, [], _, [], hW', trodAll_mk1 (shut_bool Yba.underlying4 _), (trodAll_cons_mk (shut_string Yba.underlying9 w0) trodAll_mk0), rfl, bel.frame _, fun h => by cases h⟩

theorem over : Rows.lawS2503CExactRow.holds Yba.pinned (OpenSpec.ofChange Rows.lawS2503CExactSpec) :=
  OpenClaim.holds_of_wide 5 Yba.f5 rfl rfl rfl rfl rfl rfl rfl ⟨rfl, rfl, rfl, rfl, rfl⟩ rfl rfl rfl rfl rfl (by kernel_rfl) Yba.func5 (by kernel_rfl)
    (of_decide_eq_true (by kernel_rfl)) (by unfold Func.isWrapper; first | (rw [if_pos (by decide +kernel)]; kernel_rfl) | (rw [if_neg (by decide +kernel)]; exact ⟨rfl, rfl⟩))
    (fun os started H enc _ => lifted os started H enc)

/-- THE STATEMENT -/
theorem proved : Rows.LawS2503CExactSaid := over
#print axioms proved
end Go.Proofs.Ybulkayuu.lawS2503CExact
