/-
  THE PLAIN PART OF conf.foldCase: no Go in sight.
-/
import GoSem.Claim
namespace Go.Proofs.Ybulkayuu.Fold

/-- One byte, its ASCII capital made small. -/
def fb (c : UInt8) : UInt8 := if 65 ≤ c.toNat ∧ c.toNat ≤ 90 then UInt8.ofNat (c.toNat + 32) else c

def fold (s : ByteArray) : ByteArray := ⟨s.data.map fb⟩

theorem fb_hit {c : UInt8} (h1 : 65 ≤ c.toNat) (h2 : c.toNat ≤ 90) : (fb c).toNat = c.toNat + 32 := by
  unfold fb
  rw [if_pos ⟨h1, h2⟩]
  simp
  omega

theorem fb_miss {c : UInt8} (h : ¬ (65 ≤ c.toNat ∧ c.toNat ≤ 90)) : fb c = c := by
  unfold fb
  rw [if_neg h]

theorem fold_size (s : ByteArray) : (fold s).size = s.size := by
  show (s.data.map fb).size = s.data.size
  rw [Array.size_map]

theorem fold_at (s : ByteArray) (k : Nat) (h : k < s.size) (h' : k < (fold s).size) : (fold s)[k] = fb s[k] := by
  exact Array.getElem_map (f := fb) (xs := s.data) (i := k) _

theorem fold_list (s : ByteArray) : (fold s).data.toList = s.data.toList.map fb := by
  show (s.data.map fb).toList = _
  rw [Array.toList_map]

end Go.Proofs.Ybulkayuu.Fold
