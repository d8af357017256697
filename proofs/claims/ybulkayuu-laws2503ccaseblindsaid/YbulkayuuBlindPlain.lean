/-
  THE PLAIN PART OF conf.LawS2503CCaseBlind: no Go in sight.
-/
import Derived.Test.YbulkayuuFoldPlain
namespace Go.Proofs.Ybulkayuu.Blind
open Go.Proofs.Ybulkayuu.Fold

/-- The bytes of the constant 'lower'. -/
def tab : List UInt8 := [97, 98, 99, 120, 121, 122, 48, 57, 95, 45, 46, 195, 169]

/-- The byte that a pick p (0 to 255) picks. -/
def loB (p : Int) : UInt8 := tab.getD (p % 13).toNat 0

/-- The byte with its capital, where one is asked. -/
def mxB (c : UInt8) (b : Bool) : UInt8 := if b = true ∧ 97 ≤ c.toNat ∧ c.toNat ≤ 122 then UInt8.ofNat (c.toNat - 32) else c

theorem tab_all : ∀ i, i < 13 → fb (tab.getD i 0) = tab.getD i 0 ∧ ∀ b, fb (mxB (tab.getD i 0) b) = tab.getD i 0 := by decide

theorem loB_idx (p : Int) : (p % 13).toNat < 13 := by omega

theorem fb_lo (p : Int) : fb (loB p) = loB p := (tab_all _ (loB_idx p)).1
theorem fb_mx (p : Int) (b : Bool) : fb (mxB (loB p) b) = loB p := (tab_all _ (loB_idx p)).2 b

theorem mx_hit {c : UInt8} (h1 : 97 ≤ c.toNat) (h2 : c.toNat ≤ 122) : ((mxB c true).toNat : Int) = (c.toNat : Int) - 32 := by
  unfold mxB
  rw [if_pos ⟨rfl, h1, h2⟩, UInt8.toNat_ofNat']
  omega
theorem mx_false (c : UInt8) : mxB c false = c := by simp [mxB]
theorem mx_out {c : UInt8} (b : Bool) (h : c.toNat < 97 ∨ 122 < c.toNat) : mxB c b = c := by
  unfold mxB
  rw [if_neg (by omega)]

/-- The two strings. -/
def LO (n : Nat) (Z : Nat → Int) : List UInt8 := (List.range n).map fun j => loB (Z j)
def MX (n : Nat) (Z : Nat → Int) (B : Nat → Bool) : List UInt8 := (List.range n).map fun j => mxB (loB (Z j)) (B j)

theorem fold_LO (n : Nat) (Z : Nat → Int) : fold ⟨(LO n Z).toArray⟩ = ⟨(LO n Z).toArray⟩ := by
  unfold fold
  show ByteArray.mk ((LO n Z).toArray.map fb) = _
  congr 1
  rw [List.map_toArray, LO, List.map_map]
  congr 1
  exact List.map_congr_left fun j _ => fb_lo (Z j)

theorem fold_MX (n : Nat) (Z : Nat → Int) (B : Nat → Bool) : fold ⟨(MX n Z B).toArray⟩ = ⟨(LO n Z).toArray⟩ := by
  unfold fold
  show ByteArray.mk ((MX n Z B).toArray.map fb) = _
  congr 1
  rw [List.map_toArray, MX, LO, List.map_map]
  congr 1
  exact List.map_congr_left fun j _ => fb_mx (Z j) (B j)

theorem LO_len (n : Nat) (Z : Nat → Int) : (LO n Z).length = n := by simp [LO]
theorem MX_len (n : Nat) (Z : Nat → Int) (B : Nat → Bool) : (MX n Z B).length = n := by simp [MX]

end Go.Proofs.Ybulkayuu.Blind
