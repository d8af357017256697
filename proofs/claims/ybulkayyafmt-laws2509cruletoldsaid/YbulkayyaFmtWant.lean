/-
  curveform.zzs2509cwant (function 5): its contract.
-/
import Derived.Test.YbulkayyaFmtCheck
namespace Go.Proofs.YbulkayyaFmt.Check
open Go.RowKit Go.Extern.Stop Go.Stop Go.Extern Go.Proofs.YbulkayyaFmt.Refuse

theorem want_empty (a : Option Addr) (c : Nat) (w : World) :
    Calls Ybaf.prog 5 #[.slice a 0 c] w fun e w' => e = .returned (.tuple #[.string ⟨#[73, 84, 85, 45, 84, 32, 88, 46, 54, 57, 48, 32, 115, 101, 99, 116, 105, 111, 110, 32, 56, 46, 51, 46, 49]⟩, .bool true]) ∧ w' = w := by
  go_enter Ybaf.func5, Ybaf.ntmps5
  go_wp2
  go_ret2
  exact ⟨rfl, rfl⟩
theorem want_one (b off c : Nat) (w : World) (h0 : w.cell? ⟨b, off, none⟩ = some (.int .u8 1)) :
    Calls Ybaf.prog 5 #[.slice (some ⟨b, off, none⟩) 1 c] w fun e w' => e = .returned (.tuple #[.string ⟨#[]⟩, .bool false]) ∧ w' = w := by
  go_enter Ybaf.func5, Ybaf.ntmps5
  go_wp2
  go_ret2
  exact ⟨rfl, rfl⟩
theorem want_other (b off c : Nat) (x : Int) (w : World) (hx : (x == 1) = false) (h0 : w.cell? ⟨b, off, none⟩ = some (.int .u8 x)) :
    Calls Ybaf.prog 5 #[.slice (some ⟨b, off, none⟩) 1 c] w fun e w' => e = .returned (.tuple #[.string ⟨#[82, 70, 67, 32, 53, 57, 49, 53, 32, 115, 101, 99, 116, 105, 111, 110, 32, 51]⟩, .bool true]) ∧ w' = w := by
  go_enter Ybaf.func5, Ybaf.ntmps5
  go_wp2
  go_ret2
  exact ⟨rfl, rfl⟩
set_option maxHeartbeats 800000 in
theorem want_low (b off n c : Nat) (y : Int) (w : World) (hn : (1 : Int) < (n : Int)) (hy0 : 0 ≤ y) (hy : y < 128) (h0 : w.cell? ⟨b, off, none⟩ = some (.int .u8 0)) (h1 : w.cell? ⟨b, off + 1, none⟩ = some (.int .u8 y)) :
    Calls Ybaf.prog 5 #[.slice (some ⟨b, off, none⟩) n c] w fun e w' => e = .returned (.tuple #[.string ⟨#[73, 84, 85, 45, 84, 32, 88, 46, 54, 57, 48, 32, 115, 101, 99, 116, 105, 111, 110, 32, 56, 46, 51, 46, 50]⟩, .bool true]) ∧ w' = w := by
  have hz : ((n : Int) == 0) = false := by simp; omega
  have hp : (0 : Int) < (n : Int) := by omega
  have h2 : (2 : Int) ≤ (n : Int) := by omega
  go_enter Ybaf.func5, Ybaf.ntmps5
  go_wp2
  go_ret2
  exact ⟨rfl, rfl⟩

set_option maxHeartbeats 800000 in
theorem want_high (b off n c : Nat) (y : Int) (w : World) (hn : (1 : Int) < (n : Int)) (hy : 128 ≤ y) (hy1 : y < 256) (h0 : w.cell? ⟨b, off, none⟩ = some (.int .u8 255)) (h1 : w.cell? ⟨b, off + 1, none⟩ = some (.int .u8 y)) :
    Calls Ybaf.prog 5 #[.slice (some ⟨b, off, none⟩) n c] w fun e w' => e = .returned (.tuple #[.string ⟨#[73, 84, 85, 45, 84, 32, 88, 46, 54, 57, 48, 32, 115, 101, 99, 116, 105, 111, 110, 32, 56, 46, 51, 46, 50]⟩, .bool true]) ∧ w' = w := by
  have hz : ((n : Int) == 0) = false := by simp; omega
  have hp : (0 : Int) < (n : Int) := by omega
  have h2 : (2 : Int) ≤ (n : Int) := by omega
  go_enter Ybaf.func5, Ybaf.ntmps5
  go_wp2
  go_ret2
  exact ⟨rfl, rfl⟩

set_option maxHeartbeats 1600000 in
theorem want_long (b off n c : Nat) (x y : Int) (w : World) (hn : (1 : Int) < (n : Int)) (hy0 : 0 ≤ y) (hy1 : y < 256) (hx : ¬ (x = 0 ∧ y < 128) ∧ ¬ (x = 255 ∧ 128 ≤ y)) (h0 : w.cell? ⟨b, off, none⟩ = some (.int .u8 x)) (h1 : w.cell? ⟨b, off + 1, none⟩ = some (.int .u8 y)) :
    Calls Ybaf.prog 5 #[.slice (some ⟨b, off, none⟩) n c] w fun e w' => e = .returned (.tuple #[.string ⟨#[82, 70, 67, 32, 53, 57, 49, 53, 32, 115, 101, 99, 116, 105, 111, 110, 32, 51]⟩, .bool true]) ∧ w' = w := by
  have hz : ((n : Int) == 0) = false := by simp; omega
  have hp : (0 : Int) < (n : Int) := by omega
  have h2 : (2 : Int) ≤ (n : Int) := by omega
  obtain ⟨g1, g2⟩ := hx
  by_cases ex : x = 0
  · subst ex
    have hy : 128 ≤ y := by omega
    clear g1 g2
    go_enter Ybaf.func5, Ybaf.ntmps5
    go_wp2
    go_ret2
    exact ⟨rfl, rfl⟩
  · have e0 : (x == 0) = false := by simpa using ex
    by_cases ey : x = 255
    · subst ey
      have hy : y < 128 := by omega
      clear g1 g2 ex
      go_enter Ybaf.func5, Ybaf.ntmps5
      go_wp2
      go_ret2
      exact ⟨rfl, rfl⟩
    · have e1 : (x == 255) = false := by simpa using ey
      clear g1 g2 ex ey
      go_enter Ybaf.func5, Ybaf.ntmps5
      go_wp2
      go_ret2
      exact ⟨rfl, rfl⟩
end Go.Proofs.YbulkayyaFmt.Check
