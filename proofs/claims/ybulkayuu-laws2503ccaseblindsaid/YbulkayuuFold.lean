/-
  conf.foldCase (function 12): ITS CONTRACT.
-/
import Derived.Test.YbulkayuuRows
import Derived.Test.YbulkayuuFoldPlain
import Derived.WalkKit
import Derived.ProofKit
import Derived.Below
import Derived.Laws.IdiomStrings
namespace Go.Proofs.Ybulkayuu.Fold
open Go.ChangeShapes Go.WideShapes Go.ChangeAt Go.RowKit

/-- Byte j after k rounds. -/
def at_ (s : ByteArray) (k j : Nat) : Int := if j < k then ((fb (s.data.getD j 0)).toNat : Int) else ((s.data.getD j 0).toNat : Int)

theorem at_here (s : ByteArray) (k : Nat) : at_ s k k = ((s.data.getD k 0).toNat : Int) := by simp [at_]
theorem at_done (s : ByteArray) (k : Nat) : at_ s (k + 1) k = ((fb (s.data.getD k 0)).toNat : Int) := by simp [at_]
theorem at_other (s : ByteArray) (k j : Nat) (h : j ≠ k) : at_ s (k + 1) j = at_ s k j := by
  unfold at_
  by_cases h1 : j < k
  · rw [if_pos h1, if_pos (by omega)]
  · rw [if_neg h1, if_neg (by omega)]

/-- What the loop keeps. -/
def Rel (s : ByteArray) (w : World) (k : Nat) (wr : World) : Prop :=
  (∀ j, j < s.size → wr.cell? ⟨w.heap.size, j, none⟩ = some (.int .u8 (at_ s k j))) ∧ (∀ j, j < s.size → wr.frozen? ⟨w.heap.size, j, none⟩ = false) ∧ Below w.heap.size w wr

theorem rel_miss {s : ByteArray} {w wr : World} {k : Nat} {v : Int} (h : Rel s w k wr) (hv : v = ((s.data.getD k 0).toNat : Int)) (hm : v < 65 ∨ 90 < v) : Rel s w (k + 1) wr := by
  refine ⟨fun j hj => ?_, h.2.1, h.2.2⟩
  by_cases e : j = k
  · subst e
    rw [at_done, fb_miss (by omega), ← at_here]
    exact h.1 j hj
  · rw [at_other s k j e]
    exact h.1 j hj

theorem rel_hit {s : ByteArray} {w wr : World} {k : Nat} {v u : Int} (h : Rel s w k wr) (hk : k < s.size) (hv : v = ((s.data.getD k 0).toNat : Int)) (hm : 65 ≤ v) (hm2 : v ≤ 90) (hu : u = v + 32) : Rel s w (k + 1) (wr.setCell ⟨w.heap.size, k, none⟩ (.int .u8 u)) := by
  refine ⟨fun j hj => ?_, fun j hj => ?_, h.2.2.setCell (Nat.le_refl _) _⟩
  · by_cases e : j = k
    · subst e
      rw [at_done, fb_hit (by omega) (by omega), World.cell?_setCell_same _ _ _ (h.1 j hj)]
      congr 2
      omega
    · rw [at_other s k j e, World.cell?_setCell_other _ _ _ _ (fun e1 => e (by cases e1; rfl))]
      exact h.1 j hj
  · rw [World.frozen?_setCell]
    exact h.2.1 j hj

theorem back {s : ByteArray} {w wr : World} {cap : Nat} (h : Rel s w s.size wr) : (convert 30 9 (.slice (some ⟨w.heap.size, 0, none⟩) s.size cap)).run Yba.prog wr = .ok (.string (fold s)) wr := by
  have hl : (fold s).data.toList.length = s.size := by rw [fold_list]; simp
  have := run_convert_bytes_back (P := Yba.prog) wr 30 9 5 ⟨w.heap.size, 0, none⟩ cap (fold s).data.toList Yba.underlying30 Yba.underlying5 Yba.underlying9 (fun j hj => by
    have hj' : j < s.size := by omega
    have h1 := h.1 j hj'
    have e : (⟨w.heap.size, 0, none⟩ : Addr).add j = ⟨w.heap.size, j, none⟩ := by rw [add_plain, Nat.zero_add]
    rw [e, h1]
    have hd : j < s.data.size := hj'
    have e2 : s.data.getD j 0 = s.data[j] := by unfold Array.getD; rw [dif_pos hd]; rfl
    simp only [at_, if_pos hj', fold_list, List.getElem_map, e2, Array.getElem_toList])
  rw [hl] at this
  simpa using this

set_option maxHeartbeats 800000 in
theorem foldCase_any (s : ByteArray) (w : World) (hs : s.size ≤ maxLen) :
    Calls Yba.prog 12 #[.string s] w fun e w' => e = .returned (.string (fold s)) ∧ Below w.heap.size w w' := by
  unfold maxLen at hs
  have hconv := run_bytes_of_string (P := Yba.prog) w 9 30 5 s Yba.underlying9 Yba.underlying30 Yba.underlying5
  generalize hcap : grownCap w s.size 0 5 = cap at hconv
  clear hcap
  obtain ⟨C, hC⟩ : ∃ C, C = bytesRow s cap := ⟨_, rfl⟩
  rw [← hC] at hconv
  have HC : Hid (C = bytesRow s cap) := hC
  clear hC
  go_enter Yba.func12, Yba.ntmps12
  go_wp2
  go_loopw [10] (fun i wr => ∃ k : Nat, k ≤ s.size ∧ i = .int .i64 k ∧ Rel s w k wr) (fun i _ => s.size - (intOf i).toNat)
  case atStart =>
    refine ⟨0, Nat.zero_le _, rfl, fun j hj => ?_, fun j hj => ?_, ((Below.refl _ _).alloc (Nat.le_refl _) _).drew⟩
    · have hd : j < s.data.size := hj
      have e2 : s.data.getD j 0 = s.data[j] := by unfold Array.getD; rw [dif_pos hd]; rfl
      show (w.alloc (.cells C 5 (C.size, C.size + 1))).cell? _ = _
      rw [World.cell?_alloc_mark, HC.out, bytesRow_at s cap j hj]
      simp [at_, e2]
    · show (w.alloc (.cells C 5 (C.size, C.size + 1))).frozen? _ = _
      rw [World.frozen?_alloc_mark]
      have hj2 : j < C.size := by rw [HC.out]; simp [bytesRow]; have : s.data.size = s.size := rfl; omega
      simp; omega
  case round =>
    obtain ⟨k, hk, rfl, hR⟩ := hrel
    clear hconv
    by_cases hlt : k < s.size
    · obtain ⟨v, hv⟩ : ∃ v : Int, v = ((s.data.getD k 0).toNat : Int) := ⟨_, rfl⟩
      have hc : wr.cell? ⟨w.heap.size, k, none⟩ = some (.int .u8 v) := by rw [hv, ← at_here]; exact hR.1 k hlt
      have hf : wr.frozen? ⟨w.heap.size, k, none⟩ = false := hR.2.1 k hlt
      have hv0 : 0 ≤ v := by omega
      have hv1 : v < 256 := by have := (s.data.getD k 0).toNat_lt; omega
      have HV : Hid (v = ((s.data.getD k 0).toNat : Int)) := hv
      clear hv
      by_cases hh : 65 ≤ v ∧ v ≤ 90
      · obtain ⟨h65, h90⟩ := hh
        go_wp2
        go_roundw
        case rel => 
          exact ⟨k + 1, by omega, by go_num, rel_hit hR hlt HV.out h65 h90 (by omega)⟩
        case measure => simp [intOf]; omega
      · rcases (show v < 65 ∨ 90 < v from by omega) with h | h
        · go_wp2
          go_roundw
          case rel => exact ⟨k + 1, by omega, by go_num, rel_miss hR HV.out (by omega)⟩
          case measure => simp [intOf]; omega
        · go_wp2
          go_roundw
          case rel => exact ⟨k + 1, by omega, by go_num, rel_miss hR HV.out (by omega)⟩
          case measure => simp [intOf]; omega
    · obtain rfl : k = s.size := by omega
      have hback := back (cap := cap) hR
      go_wp2
      go_ret
      exact ⟨rfl, hR.2.2⟩
end Go.Proofs.Ybulkayuu.Fold
