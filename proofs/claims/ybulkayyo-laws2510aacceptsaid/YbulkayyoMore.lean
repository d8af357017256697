/-
  The callees of LawS2510AAccept, the rest: setOutput where it takes a word, where it refuses; zzs2510awant; zzs2510aprefix.
-/
import Derived.Test.YbulkayyoParts
namespace Go.Proofs.Ybulkayyo.Parts
open Go.ChangeShapes Go.WideShapes Go.ChangeAt Go.RowKit

theorem of_list {v : ByteArray} {l : List UInt8} (h : (v.toList == l) = true) : v = ⟨l.toArray⟩ := by
  have e : v.toList = l := by simpa using h
  rw [ByteArray.toList_eq] at e
  exact bytes_inj (by simpa using e)

theorem pre_inh : isPre ⟨#[105, 110, 104, 101, 114, 105, 116]⟩ ⟨#[102, 105, 108, 101, 58]⟩ = false := by
  unfold isPre; simp only [ByteArray.toList_eq]; decide
theorem pre_dis : isPre ⟨#[100, 105, 115, 99, 97, 114, 100]⟩ ⟨#[102, 105, 108, 101, 58]⟩ = false := by
  unfold isPre; simp only [ByteArray.toList_eq]; decide

set_option maxHeartbeats 800000 in
theorem set_inh (b : Nat) (x : ByteArray) (w : World) (hc : w.cell? ⟨b, 0, none⟩ = some (.string x)) (hf : w.frozen? ⟨b, 0, none⟩ = false) :
    Calls Yba.prog 5 #[.pointer (some ⟨b, 0, none⟩), .string ⟨#[105, 110, 104, 101, 114, 105, 116]⟩] w fun e w' => e = .returned .nilIface ∧ w' = w.setCell ⟨b, 0, none⟩ (.string ⟨#[105, 110, 104, 101, 114, 105, 116]⟩) := by
  have C1 : Hid (∀ w : World, Calls Yba.prog 7 #[.string ⟨#[105, 110, 104, 101, 114, 105, 116]⟩] w fun e w' => e = .returned (.tuple #[.string ⟨#[105, 110, 104, 101, 114, 105, 116]⟩, .bool false]) ∧ w' = w) := fun w => cut_no _ w pre_inh
  go_enter Yba.func5, Yba.ntmps5
  go_wp2_with (go_at_call 7; refine (C1.out _).mono ?_; rintro e w' ⟨rfl, rfl⟩)
  go_ret
  exact ⟨rfl, rfl⟩

set_option maxHeartbeats 800000 in
theorem set_dis (b : Nat) (x : ByteArray) (w : World) (hc : w.cell? ⟨b, 0, none⟩ = some (.string x)) (hf : w.frozen? ⟨b, 0, none⟩ = false) :
    Calls Yba.prog 5 #[.pointer (some ⟨b, 0, none⟩), .string ⟨#[100, 105, 115, 99, 97, 114, 100]⟩] w fun e w' => e = .returned .nilIface ∧ w' = w.setCell ⟨b, 0, none⟩ (.string ⟨#[100, 105, 115, 99, 97, 114, 100]⟩) := by
  have C1 : Hid (∀ w : World, Calls Yba.prog 7 #[.string ⟨#[100, 105, 115, 99, 97, 114, 100]⟩] w fun e w' => e = .returned (.tuple #[.string ⟨#[100, 105, 115, 99, 97, 114, 100]⟩, .bool false]) ∧ w' = w) := fun w => cut_no _ w pre_dis
  go_enter Yba.func5, Yba.ntmps5
  go_wp2_with (go_at_call 7; refine (C1.out _).mono ?_; rintro e w' ⟨rfl, rfl⟩)
  go_ret
  exact ⟨rfl, rfl⟩

set_option maxHeartbeats 800000 in
theorem set_no (v : ByteArray) (p : Value) (w : World)
    (h1 : (v.toList == [105, 110, 104, 101, 114, 105, 116]) = false) (h2 : (v.toList == [100, 105, 115, 99, 97, 114, 100]) = false) (h3 : fileOk v = false) :
    Calls Yba.prog 5 #[p, .string v] w fun e w' => e = .returned (.iface 34 (.pointer (some ⟨w.heap.size, 0, none⟩))) ∧ ∃ m, w' = w.alloc (.cells #[.string m] 36) := by
  unfold fileOk at h3
  cases h4 : isPre v ⟨#[102, 105, 108, 101, 58]⟩ with
  | false =>
    have C1 : Hid (∀ w : World, Calls Yba.prog 7 #[.string v] w fun e w' => e = .returned (.tuple #[.string v, .bool false]) ∧ w' = w) := fun w => cut_no v w h4
    clear h3 h4
    go_enter Yba.func5, Yba.ntmps5
    go_wp2_with (first | (go_at_call 7; refine (C1.out _).mono ?_; rintro e w' ⟨rfl, rfl⟩) | go_in)
    go_ret
    exact ⟨rfl, _, rfl⟩
  | true =>
    rw [h4] at h3
    have h5 : isPre (v.extract 5 v.size) ⟨#[47]⟩ = false := by simpa using h3
    have hsz : 5 ≤ v.size := isPre_size h4
    have c1 := fun w => cut_yes v w hsz h4
    have c2 := abs_any (v.extract 5 v.size)
    rw [h5] at c2
    have C1 : Hid (∀ w : World, Calls Yba.prog 7 #[.string v] w fun e w' => e = .returned (.tuple #[.string (v.extract 5 v.size), .bool true]) ∧ w' = w) := c1
    have C2 : Hid (∀ w : World, Calls Yba.prog 8 #[.string (v.extract 5 v.size)] w fun e w' => e = .returned (.bool false) ∧ w' = w) := c2
    clear c1 c2 h3 h4 h5
    go_enter Yba.func5, Yba.ntmps5
    go_wp2_with (first | (go_at_call 7; refine (C1.out _).mono ?_; rintro e w' ⟨rfl, rfl⟩) | (go_at_call 8; refine (C2.out _).mono ?_; rintro e w' ⟨rfl, rfl⟩) | go_in)
    go_ret
    exact ⟨rfl, _, rfl⟩

/-- The head text that sel picks. -/
def pfx (sel : Int) : ByteArray :=
  if sel % 5 = 1 then ⟨#[102, 105, 108, 101, 58]⟩ else if sel % 5 = 2 then ⟨#[102, 105, 108, 101, 58, 47]⟩ else if sel % 5 = 3 then ⟨#[105, 110, 104, 101, 114, 105, 116]⟩
  else if sel % 5 = 4 then ⟨#[100, 105, 115, 99, 97, 114, 100]⟩ else ⟨#[]⟩
theorem pfx_size (sel : Int) : (pfx sel).size ≤ 7 := by
  unfold pfx
  repeat' split
  all_goals decide

theorem head_any (sel : Int) (h0 : 0 ≤ sel) (h1 : sel < 256) (w : World) :
    Calls Yba.prog 4 #[.int .u8 sel] w fun e w' => e = .returned (.string (pfx sel)) ∧ w' = w := by
  have hc : sel % 5 = 0 ∨ sel % 5 = 1 ∨ sel % 5 = 2 ∨ sel % 5 = 3 ∨ sel % 5 = 4 := by omega
  rcases hc with h | h | h | h | h
  all_goals
    unfold pfx
    rw [h]
    go_enter Yba.func4, Yba.ntmps4
    go_wp2
    go_ret
    exact ⟨rfl, rfl⟩
end Go.Proofs.Ybulkayyo.Parts
