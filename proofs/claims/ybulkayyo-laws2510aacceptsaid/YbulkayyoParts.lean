/-
  The callees of LawS2510AAccept: their contracts.
-/
import Derived.Test.YbulkayyoRows
import Derived.WalkKit
import Derived.ProofKit
import Derived.OpenShut
import Derived.ShutString
import Derived.WalkSpells
namespace Go.Proofs.Ybulkayyo.Parts
open Go.ChangeShapes Go.WideShapes Go.ChangeAt Go.RowKit

/-- p stands at the head of s. -/
def isPre (s p : ByteArray) : Bool := decide (p.size ≤ s.size) && ((s.extract 0 p.size).toList == p.toList)

theorem hasPrefix_any (s p : ByteArray) (w : World) :
    Calls Yba.prog 13 #[.string s, .string p] w fun e w' => e = .returned (.bool (isPre s p)) ∧ w' = w := by
  by_cases h1 : p.size ≤ s.size
  · cases h2 : ((s.extract 0 p.size).toList == p.toList) with
    | true =>
      rw [show isPre s p = true from by unfold isPre; rw [h2]; simp [h1]]
      go_enter Yba.func13, Yba.ntmps13
      go_wp2
      go_ret
      exact ⟨rfl, rfl⟩
    | false =>
      rw [show isPre s p = false from by unfold isPre; rw [h2]; simp]
      go_enter Yba.func13, Yba.ntmps13
      go_wp2
      go_ret
      exact ⟨rfl, rfl⟩
  · rw [show isPre s p = false from by unfold isPre; simp [h1]]
    have h3 : ¬ (p.size : Int) ≤ (s.size : Int) := by omega
    go_enter Yba.func13, Yba.ntmps13
    go_wp2
    go_ret
    exact ⟨rfl, rfl⟩

theorem cut_yes (s : ByteArray) (w : World) (hs : 5 ≤ s.size) (h : isPre s ⟨#[102, 105, 108, 101, 58]⟩ = true) :
    Calls Yba.prog 7 #[.string s] w fun e w' => e = .returned (.tuple #[.string (s.extract 5 s.size), .bool true]) ∧ w' = w := by
  have hc := hasPrefix_any s ⟨#[102, 105, 108, 101, 58]⟩
  rw [h] at hc
  have HC : Hid (∀ (w : World), Calls Yba.prog 13 #[.string s, .string ⟨#[102, 105, 108, 101, 58]⟩] w fun e w' => e = .returned (.bool true) ∧ w' = w) := hc
  clear hc h
  go_enter Yba.func7, Yba.ntmps7
  go_wp2_with (first | (go_at_call 13; refine (HC.out _).mono ?_; rintro e w' ⟨rfl, rfl⟩) | go_in)
  go_ret2
  exact ⟨rfl, rfl⟩

theorem cut_no (s : ByteArray) (w : World) (h : isPre s ⟨#[102, 105, 108, 101, 58]⟩ = false) :
    Calls Yba.prog 7 #[.string s] w fun e w' => e = .returned (.tuple #[.string s, .bool false]) ∧ w' = w := by
  have hc := hasPrefix_any s ⟨#[102, 105, 108, 101, 58]⟩
  rw [h] at hc
  have HC : Hid (∀ (w : World), Calls Yba.prog 13 #[.string s, .string ⟨#[102, 105, 108, 101, 58]⟩] w fun e w' => e = .returned (.bool false) ∧ w' = w) := hc
  clear hc h
  go_enter Yba.func7, Yba.ntmps7
  go_wp2_with (first | (go_at_call 13; refine (HC.out _).mono ?_; rintro e w' ⟨rfl, rfl⟩) | go_in)
  go_ret2
  exact ⟨rfl, rfl⟩

theorem abs_any (s : ByteArray) (w : World) :
    Calls Yba.prog 8 #[.string s] w fun e w' => e = .returned (.bool (isPre s ⟨#[47]⟩)) ∧ w' = w := by
  have hc := hasPrefix_any s ⟨#[47]⟩
  generalize isPre s ⟨#[47]⟩ = b at hc ⊢
  have HC : Hid (∀ (w : World), Calls Yba.prog 13 #[.string s, .string ⟨#[47]⟩] w fun e w' => e = .returned (.bool b) ∧ w' = w) := hc
  clear hc
  go_enter Yba.func8, Yba.ntmps8
  go_wp2_with (first | (go_at_call 13; refine (HC.out _).mono ?_; rintro e w' ⟨rfl, rfl⟩) | go_in)
  go_ret
  exact ⟨rfl, rfl⟩

/-- What setOutput accepts. -/
def fileOk (v : ByteArray) : Bool := isPre v ⟨#[102, 105, 108, 101, 58]⟩ && isPre (v.extract 5 v.size) ⟨#[47]⟩
def ok (v : ByteArray) : Bool := (v.toList == [105, 110, 104, 101, 114, 105, 116]) || (v.toList == [100, 105, 115, 99, 97, 114, 100]) || fileOk v

theorem isPre_size {s p : ByteArray} (h : isPre s p = true) : p.size ≤ s.size := by
  unfold isPre at h
  simp at h
  exact h.1

set_option maxHeartbeats 800000 in
theorem set_file (v : ByteArray) (b : Nat) (x : ByteArray) (w : World) (hc : w.cell? ⟨b, 0, none⟩ = some (.string x)) (hf : w.frozen? ⟨b, 0, none⟩ = false)
    (h1 : (v.toList == [105, 110, 104, 101, 114, 105, 116]) = false) (h2 : (v.toList == [100, 105, 115, 99, 97, 114, 100]) = false) (h3 : fileOk v = true) :
    Calls Yba.prog 5 #[.pointer (some ⟨b, 0, none⟩), .string v] w fun e w' => e = .returned .nilIface ∧ w' = w.setCell ⟨b, 0, none⟩ (.string v) := by
  unfold fileOk at h3
  obtain ⟨h4, h5⟩ := Bool.and_eq_true_iff.1 h3
  have hsz : 5 ≤ v.size := isPre_size h4
  have c1 := fun w => cut_yes v w hsz h4
  have c2 := abs_any (v.extract 5 v.size)
  rw [h5] at c2
  have C1 : Hid (∀ w : World, Calls Yba.prog 7 #[.string v] w fun e w' => e = .returned (.tuple #[.string (v.extract 5 v.size), .bool true]) ∧ w' = w) := c1
  have C2 : Hid (∀ w : World, Calls Yba.prog 8 #[.string (v.extract 5 v.size)] w fun e w' => e = .returned (.bool true) ∧ w' = w) := c2
  clear c1 c2 h3 h4 h5
  go_enter Yba.func5, Yba.ntmps5
  go_wp2_with (first | (go_at_call 7; refine (C1.out _).mono ?_; rintro e w' ⟨rfl, rfl⟩) | (go_at_call 8; refine (C2.out _).mono ?_; rintro e w' ⟨rfl, rfl⟩))
  go_ret
  exact ⟨rfl, rfl⟩
end Go.Proofs.Ybulkayyo.Parts
