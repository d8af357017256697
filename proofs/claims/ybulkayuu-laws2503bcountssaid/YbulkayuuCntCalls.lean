/-
  zzs2503bkey (function 9), zzs2503bname (function 8): their contracts.
-/
import Derived.Test.YbulkayuuRows
import Derived.Test.YbulkayuuCntPlain
namespace Go.Proofs.Ybulkayuu.Cnt
open Go.RowKit

theorem key_any (x : Int) (h0 : 0 ≤ x) (h1 : x < 256) (w : World) : Calls Yba.prog 9 #[.int .u8 x] w fun e w' => e = .returned (.string (keyB x)) ∧ w' = w := by
  have h : x % 8 = 0 ∨ x % 8 = 1 ∨ x % 8 = 2 ∨ x % 8 = 3 ∨ x % 8 = 4 ∨ x % 8 = 5 ∨ x % 8 = 6 ∨ x % 8 = 7 := by omega
  rcases h with h | h | h | h | h | h | h | h
  all_goals
    unfold keyB
    rw [h]
    go_enter Yba.func9, Yba.ntmps9
    go_wp2
    go_ret
    exact ⟨rfl, rfl⟩
theorem name_any (x : Int) (h0 : 0 ≤ x) (h1 : x < 256) (w : World) : Calls Yba.prog 8 #[.int .u8 x] w fun e w' => e = .returned (.string (nameB x)) ∧ w' = w := by
  have h : x % 4 = 0 ∨ x % 4 = 1 ∨ x % 4 = 2 ∨ x % 4 = 3 := by omega
  rcases h with h | h | h | h
  all_goals
    unfold nameB
    rw [h]
    go_enter Yba.func8, Yba.ntmps8
    go_wp2
    go_ret
    exact ⟨rfl, rfl⟩
end Go.Proofs.Ybulkayuu.Cnt
