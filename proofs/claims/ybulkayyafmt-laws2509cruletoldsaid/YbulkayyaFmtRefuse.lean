/-
  curveform.refuse (function 7) over fmt.Sprintf (function 8, a stop that calls its operands' methods): whatever text fmt gives, the error is a new *RefusalError whose Rule is the rule that was handed in.
-/
import Derived.Test.YbulkayyaFmtRows
import Derived.Stop.CallBack
import Derived.Stop.IfaceNil
import GoSem.ClaimData
import Derived.WalkKit
import Derived.WalkSpells
import Derived.Stop.Texts
namespace Go.Proofs.YbulkayyaFmt.Refuse
open Go.RowKit Go.Extern.Stop Go.Stop Go.Extern

theorem call8 (args : Array Value) (w : World) : (callFunc 8 args).run Ybaf.prog w = (FmtCalls.sprintf #[9, 37] #[9] args).run Ybaf.prog w :=
  run_callFunc_next Ybaf.func8 (by kernel_rfl) (by kernel_rfl) (by kernel_rfl) args w
theorem guard (name : String) (w : World) : (FmtStop.guard name).run Ybaf.prog w = .ok () w := by kernel_rfl
theorem nextTurns : Extern.next FmtCalls.turnsRow = some (FmtCalls.begun #[] #[]) := by kernel_rfl

theorem fmtA : FmtStop.printed? ⟨#[118, 101, 114, 115, 105, 111, 110, 58, 32, 73, 78, 84, 69, 71, 69, 82, 32, 119, 105, 116, 104, 111, 117, 116, 32, 99, 111, 110, 116, 101, 110, 116, 115, 32, 111, 99, 116, 101, 116, 115]⟩ 0 = some [] := by kernel_rfl

theorem fmtB : FmtStop.printed? ⟨#[118, 101, 114, 115, 105, 111, 110, 58, 32, 73, 78, 84, 69, 71, 69, 82, 32, 110, 111, 116, 32, 105, 110, 32, 109, 105, 110, 105, 109, 97, 108, 32, 102, 111, 114, 109]⟩ 0 = some [] := by kernel_rfl
theorem fmtC : FmtStop.printed? ⟨#[118, 101, 114, 115, 105, 111, 110, 32, 111, 102, 32, 37, 100, 32, 111, 99, 116, 101, 116, 115, 59, 32, 105, 116, 32, 109, 117, 115, 116, 32, 98, 101, 32, 49, 32, 40, 101, 99, 80, 114, 105, 118, 107, 101, 121, 86, 101, 114, 49, 41]⟩ 1 = some [(0, 100, false)] := by kernel_rfl
theorem fmtD : FmtStop.printed? ⟨#[118, 101, 114, 115, 105, 111, 110, 32, 37, 100, 59, 32, 105, 116, 32, 109, 117, 115, 116, 32, 98, 101, 32, 49, 32, 40, 101, 99, 80, 114, 105, 118, 107, 101, 121, 86, 101, 114, 49, 41]⟩ 1 = some [(0, 100, false)] := by kernel_rfl

/-- 'int' and 'int8' under %d: plain values. -/
def shape3 : List UInt8 := [5, 3, 0, 0, 0, 0, 0, 0, 0, 105, 110, 116]
theorem act3 (name : String) (x : Value) (w : World) : (FmtCalls.act name false 100 false (.iface 3 x)).run Ybaf.prog w = .ok (.closed false) w := by kernel_rfl
theorem op3 (name : String) (x : Int) (w : World) : (FmtStop.operand name false 100 false (.iface 3 (.int .i64 x))).run Ybaf.prog w = .ok (shape3, Go.Extern.Stop.digits 8 (x % 2 ^ 64).toNat) w := by kernel_rfl
theorem act36 (name : String) (x : Value) (w : World) : (FmtCalls.act name false 100 false (.iface 36 x)).run Ybaf.prog w = .ok (.closed false) w := by kernel_rfl
def shape36 : List UInt8 := [2, 4, 0, 0, 0, 0, 0, 0, 0, 105, 110, 116, 56]
theorem op36 (name : String) (x : Int) (w : World) : (FmtStop.operand name false 100 false (.iface 36 (.int .i8 x))).run Ybaf.prog w = .ok (shape36, Go.Extern.Stop.digits 8 (x % 2 ^ 64).toNat) w := by kernel_rfl

attribute [local go_sem] call8 guard fmtA fmtB fmtC fmtD act3 op3 act36 op36

set_option maxRecDepth 100000 in
set_option maxHeartbeats 800000 in
theorem refuse_A (F : Interp) (r : ByteArray) (w : World) (hF : F.answers w.tape) :
    Calls Ybaf.prog 7 #[.string r, .string ⟨#[118, 101, 114, 115, 105, 111, 110, 58, 32, 73, 78, 84, 69, 71, 69, 82, 32, 119, 105, 116, 104, 111, 117, 116, 32, 99, 111, 110, 116, 101, 110, 116, 115, 32, 111, 99, 116, 101, 116, 115]⟩, .slice none 0 0] w fun e w' =>
      e = .returned (.iface 28 (.pointer (some ⟨w.heap.size, 0, none⟩))) ∧ ∃ t, w' = (w.alloc (.cells #[.string r, .string t] 31)).drew := by
  have hF' := answers_open hF
  go_enter Ybaf.func7, Ybaf.ntmps7
  go_wp2
  apply rows_value nextTurns
  case hr =>
    go_simp
    exact ⟨rfl, rfl⟩
  case h =>
    go_wp2
    go_ret
    exact ⟨rfl, _, rfl⟩

set_option maxRecDepth 100000 in
set_option maxHeartbeats 800000 in
theorem refuse_B (F : Interp) (r : ByteArray) (w : World) (hF : F.answers w.tape) :
    Calls Ybaf.prog 7 #[.string r, .string ⟨#[118, 101, 114, 115, 105, 111, 110, 58, 32, 73, 78, 84, 69, 71, 69, 82, 32, 110, 111, 116, 32, 105, 110, 32, 109, 105, 110, 105, 109, 97, 108, 32, 102, 111, 114, 109]⟩, .slice none 0 0] w fun e w' =>
      e = .returned (.iface 28 (.pointer (some ⟨w.heap.size, 0, none⟩))) ∧ ∃ t, w' = (w.alloc (.cells #[.string r, .string t] 31)).drew := by
  have hF' := answers_open hF
  go_enter Ybaf.func7, Ybaf.ntmps7
  go_wp2
  apply rows_value nextTurns
  case hr =>
    go_simp
    exact ⟨rfl, rfl⟩
  case h =>
    go_wp2
    go_ret
    exact ⟨rfl, _, rfl⟩

set_option maxRecDepth 100000 in
set_option maxHeartbeats 800000 in
theorem refuse_C (F : Interp) (r : ByteArray) (n : Int) (b : Nat) (w : World) (hF : F.answers w.tape) (hc : w.cell? ⟨b, 0, none⟩ = some (.iface 3 (.int .i64 n))) :
    Calls Ybaf.prog 7 #[.string r, .string ⟨#[118, 101, 114, 115, 105, 111, 110, 32, 111, 102, 32, 37, 100, 32, 111, 99, 116, 101, 116, 115, 59, 32, 105, 116, 32, 109, 117, 115, 116, 32, 98, 101, 32, 49, 32, 40, 101, 99, 80, 114, 105, 118, 107, 101, 121, 86, 101, 114, 49, 41]⟩, .slice (some ⟨b, 0, none⟩) 1 1] w fun e w' =>
      e = .returned (.iface 28 (.pointer (some ⟨w.heap.size, 0, none⟩))) ∧ ∃ t, w' = (w.alloc (.cells #[.string r, .string t] 31)).drew := by
  have hF' := answers_open hF
  go_enter Ybaf.func7, Ybaf.ntmps7
  go_wp2
  apply rows_value nextTurns
  case hr =>
    go_simp
    exact ⟨rfl, rfl⟩
  case h =>
    go_wp2
    go_ret
    exact ⟨rfl, _, rfl⟩

set_option maxRecDepth 100000 in
set_option maxHeartbeats 800000 in
theorem refuse_D (F : Interp) (r : ByteArray) (x : Int) (b : Nat) (w : World) (hF : F.answers w.tape) (hc : w.cell? ⟨b, 0, none⟩ = some (.iface 36 (.int .i8 x))) :
    Calls Ybaf.prog 7 #[.string r, .string ⟨#[118, 101, 114, 115, 105, 111, 110, 32, 37, 100, 59, 32, 105, 116, 32, 109, 117, 115, 116, 32, 98, 101, 32, 49, 32, 40, 101, 99, 80, 114, 105, 118, 107, 101, 121, 86, 101, 114, 49, 41]⟩, .slice (some ⟨b, 0, none⟩) 1 1] w fun e w' =>
      e = .returned (.iface 28 (.pointer (some ⟨w.heap.size, 0, none⟩))) ∧ ∃ t, w' = (w.alloc (.cells #[.string r, .string t] 31)).drew := by
  have hF' := answers_open hF
  go_enter Ybaf.func7, Ybaf.ntmps7
  go_wp2
  apply rows_value nextTurns
  case hr =>
    go_simp
    exact ⟨rfl, rfl⟩
  case h =>
    go_wp2
    go_ret
    exact ⟨rfl, _, rfl⟩
end Go.Proofs.YbulkayyaFmt.Refuse
