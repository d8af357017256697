/-
  curveform.checkVersion (function 6) and zzs2509cwant (function 5): their contracts.
-/
import Derived.Test.YbulkayyaFmtRefuse
import Derived.Below
namespace Go.Proofs.YbulkayyaFmt.Check
open Go.RowKit Go.Extern.Stop Go.Stop Go.Extern Go.Proofs.YbulkayyaFmt.Refuse

/-- A new *RefusalError whose Rule is r. -/
def Bad (w : World) (r : ByteArray) (e : Ending) (w' : World) : Prop :=
  ∃ b, e = .returned (.iface 28 (.pointer (some ⟨b, 0, none⟩))) ∧ w'.cell? ⟨b, 0, none⟩ = some (.string r) ∧ Below w.heap.size w w'

theorem bad_of {w wx : World} {r t : ByteArray} {e : Ending} {w' : World} {B : Nat} (he : e = .returned (.iface 28 (.pointer (some ⟨B, 0, none⟩)))) (hB : wx.heap.size = B) (hw : w' = (wx.alloc (.cells #[.string r, .string t] 31)).drew) (hb : Below w.heap.size w wx) : Bad w r e w' := by
  subst hw
  subst hB
  refine ⟨_, he, ?_, (hb.alloc hb.size _).drew⟩
  show (wx.alloc (.cells #[.string r, .string t] 31)).cell? _ = _
  simp

set_option maxHeartbeats 800000 in
theorem check_empty (F : Interp) (a : Option Addr) (c : Nat) (w : World) (hF : F.answers w.tape) :
    Calls Ybaf.prog 6 #[.slice a 0 c] w (Bad w ⟨#[73, 84, 85, 45, 84, 32, 88, 46, 54, 57, 48, 32, 115, 101, 99, 116, 105, 111, 110, 32, 56, 46, 51, 46, 49]⟩) := by
  go_enter Ybaf.func6, Ybaf.ntmps6
  go_wp2_with (go_at_call 7; refine (refuse_A F _ _ (by exact hF)).mono ?_; rintro e w' ⟨rfl, t, rfl⟩)
  go_ret
  exact bad_of rfl rfl rfl (Below.refl _ _)

/-- One octet: 1. -/
theorem check_one (b off c : Nat) (w : World) (h0 : w.cell? ⟨b, off, none⟩ = some (.int .u8 1)) :
    Calls Ybaf.prog 6 #[.slice (some ⟨b, off, none⟩) 1 c] w fun e w' => e = .returned .nilIface ∧ w' = w := by
  go_enter Ybaf.func6, Ybaf.ntmps6
  go_wp2
  go_ret
  exact ⟨rfl, rfl⟩

set_option maxHeartbeats 800000 in
/-- One octet, not 1. -/
theorem check_other (F : Interp) (b off c : Nat) (x : Int) (w : World) (hF : F.answers w.tape) (hx : (x == 1) = false) (h0 : w.cell? ⟨b, off, none⟩ = some (.int .u8 x)) :
    Calls Ybaf.prog 6 #[.slice (some ⟨b, off, none⟩) 1 c] w (Bad w ⟨#[82, 70, 67, 32, 53, 57, 49, 53, 32, 115, 101, 99, 116, 105, 111, 110, 32, 51]⟩) := by
  have hn : (x != 1) = true := by simpa using hx
  go_enter Ybaf.func6, Ybaf.ntmps6
  go_wp2_with (go_at_call 7; refine (refuse_D F _ _ _ _ (by exact hF) (by simp; rfl)).mono ?_; rintro e w' ⟨rfl, t, rfl⟩)
  go_ret
  exact bad_of (B := w.heap.size + 1) rfl (by simp) rfl ((Below.refl _ _).alloc (Nat.le_refl _) _)

set_option maxHeartbeats 800000 in
/-- Two octets or more, not in the least form: a nought ahead of a small octet. -/
theorem check_low (F : Interp) (b off n c : Nat) (y : Int) (w : World) (hF : F.answers w.tape) (hn : (1 : Int) < (n : Int)) (hy : y < 128) (h0 : w.cell? ⟨b, off, none⟩ = some (.int .u8 0)) (h1 : w.cell? ⟨b, off + 1, none⟩ = some (.int .u8 y)) :
    Calls Ybaf.prog 6 #[.slice (some ⟨b, off, none⟩) n c] w (Bad w ⟨#[73, 84, 85, 45, 84, 32, 88, 46, 54, 57, 48, 32, 115, 101, 99, 116, 105, 111, 110, 32, 56, 46, 51, 46, 50]⟩) := by
  have hz : ((n : Int) == 0) = false := by simp; omega
  have hp : (0 : Int) < (n : Int) := by omega
  go_enter Ybaf.func6, Ybaf.ntmps6
  go_wp2_with (go_at_call 7; refine (refuse_B F _ _ (by exact hF)).mono ?_; rintro e w' ⟨rfl, t, rfl⟩)
  go_ret
  exact bad_of rfl rfl rfl (Below.refl _ _)

set_option maxHeartbeats 800000 in
/-- .. 255 ahead of a great octet. -/
theorem check_high (F : Interp) (b off n c : Nat) (y : Int) (w : World) (hF : F.answers w.tape) (hn : (1 : Int) < (n : Int)) (hy : 128 ≤ y) (h0 : w.cell? ⟨b, off, none⟩ = some (.int .u8 255)) (h1 : w.cell? ⟨b, off + 1, none⟩ = some (.int .u8 y)) :
    Calls Ybaf.prog 6 #[.slice (some ⟨b, off, none⟩) n c] w (Bad w ⟨#[73, 84, 85, 45, 84, 32, 88, 46, 54, 57, 48, 32, 115, 101, 99, 116, 105, 111, 110, 32, 56, 46, 51, 46, 50]⟩) := by
  have hz : ((n : Int) == 0) = false := by simp; omega
  have hp : (0 : Int) < (n : Int) := by omega
  go_enter Ybaf.func6, Ybaf.ntmps6
  go_wp2_with (go_at_call 7; refine (refuse_B F _ _ (by exact hF)).mono ?_; rintro e w' ⟨rfl, t, rfl⟩)
  go_ret
  exact bad_of rfl rfl rfl (Below.refl _ _)

set_option maxHeartbeats 1600000 in
/-- Two octets or more, in the least form. -/
theorem check_long (F : Interp) (b off n c : Nat) (x y : Int) (w : World) (hF : F.answers w.tape) (hn : (1 : Int) < (n : Int)) (hnm : n ≤ maxLen) (hx : ¬ (x = 0 ∧ y < 128) ∧ ¬ (x = 255 ∧ 128 ≤ y)) (h0 : w.cell? ⟨b, off, none⟩ = some (.int .u8 x)) (h1 : w.cell? ⟨b, off + 1, none⟩ = some (.int .u8 y)) :
    Calls Ybaf.prog 6 #[.slice (some ⟨b, off, none⟩) n c] w (Bad w ⟨#[82, 70, 67, 32, 53, 57, 49, 53, 32, 115, 101, 99, 116, 105, 111, 110, 32, 51]⟩) := by
  unfold maxLen at hnm
  have hz : ((n : Int) == 0) = false := by simp; omega
  have hp : (0 : Int) < (n : Int) := by omega
  obtain ⟨g1, g2⟩ := hx
  by_cases ex : x = 0
  · subst ex
    have hy : ¬ y < 128 := by omega
    clear g1 g2
    go_enter Ybaf.func6, Ybaf.ntmps6
    go_wp2_with (go_at_call 7; refine (refuse_C F _ n _ _ (by exact hF) (by simp)).mono ?_; rintro e w' ⟨rfl, t, rfl⟩)
    go_ret
    exact bad_of (B := w.heap.size + 1) rfl (by simp) rfl ((Below.refl _ _).alloc (Nat.le_refl _) _)
  · have e0 : (x == 0) = false := by simpa using ex
    by_cases ey : x = 255
    · subst ey
      have hy : ¬ 128 ≤ y := by omega
      clear g1 g2 ex
      go_enter Ybaf.func6, Ybaf.ntmps6
      go_wp2_with (go_at_call 7; refine (refuse_C F _ n _ _ (by exact hF) (by simp)).mono ?_; rintro e w' ⟨rfl, t, rfl⟩)
      go_ret
      exact bad_of (B := w.heap.size + 1) rfl (by simp) rfl ((Below.refl _ _).alloc (Nat.le_refl _) _)
    · have e1 : (x == 255) = false := by simpa using ey
      clear g1 g2 ex ey
      go_enter Ybaf.func6, Ybaf.ntmps6
      go_wp2_with (go_at_call 7; refine (refuse_C F _ n _ _ (by exact hF) (by simp)).mono ?_; rintro e w' ⟨rfl, t, rfl⟩)
      go_ret
      exact bad_of (B := w.heap.size + 1) rfl (by simp) rfl ((Below.refl _ _).alloc (Nat.le_refl _) _)
end Go.Proofs.YbulkayyaFmt.Check
