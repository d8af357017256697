/-
  (*Dialplan).AddContext (function 11): ITS CONTRACT.
-/
import Derived.Test.YbulkayuuSum
import Derived.WalkSpells
namespace Go.Proofs.Ybulkayuu.Add
open Go.RowKit Go.Maps Go.WideShapes Go.Proofs.Ybulkayuu.Rep Go.Proofs.Ybulkayuu.Sum

theorem zero31 (w : World) : (zeroValue 31).run Yba.prog w = .ok (.pointer none) w := by kernel_rfl

/-- The block of a new context called s. -/
def ctx (s : ByteArray) : Obj := .cells #[.string s, .slice none 0 0, .slice none 0 0, .slice none 0 0, .map none, .map none] 37

set_option maxHeartbeats 800000 in
theorem add_nil (bd : Nat) (s : ByteArray) (hs : s.size ≤ maxLen) (wr : World) (c0 : wr.cell? ⟨bd, 0, none⟩ = some (.map none)) (f0 : wr.frozen? ⟨bd, 0, none⟩ = false) :
    Calls Yba.prog 11 #[.pointer (some ⟨bd, 0, none⟩), .string s] wr fun e w' => ∃ v, e = .returned v ∧
      w'.ownsMap Yba.prog 9 ptrElem wr.heap.size 1 ((DataW.map [] : DataW Unit).put (.string s.data.toList) (.lit (.int .i64 ((wr.heap.size + 1 : Nat) : Int)))) ∧
      (((wr.setCell ⟨bd, 0, none⟩ (.map (some wr.heap.size))).alloc (.map #[] 0)).alloc (ctx s)).grownBy w' (some wr.heap.size) := by
  have hbd := World.block_lt_of_cell? _ _ c0
  simp only at hbd
  have hkey := WideMaps.keyOf_string_mk (P := Yba.prog) (k := 9) Yba.underlying9 hs
  have hlk : ∀ wx, (Instr.lookup 25 (.map none) (.string s) true).run Yba.prog wx = .ok (.tuple #[.pointer none, .bool false]) wx := fun wx => Maps.look_nil true law9 Yba.underlying25 (zero31 wx) hkey
  have hmm := @run_makeMap Yba.prog
  have heq := fun wx => run_eql_map_nil (P := Yba.prog) wx 25 9 31 none Yba.underlying25
  go_enter Yba.func11, Yba.ntmps11
  have hown : (((wr.setCell ⟨bd, 0, none⟩ (.map (some wr.heap.size))).alloc (.map #[] 0)).alloc (ctx s)).ownsMap Yba.prog 9 ptrElem wr.heap.size 0 (.map []) := by
    have := (World.ownsMap_made (wr.setCell ⟨bd, 0, none⟩ (.map (some wr.heap.size))) Yba.prog 9 ptrElem).alloc (ctx s)
    rwa [show (wr.setCell ⟨bd, 0, none⟩ (.map (some wr.heap.size))).heap.size = wr.heap.size from by simp [World.setCell]] at this
  unfold ctx at hown ⊢
  go_wp2_with (first
    | (at_mapUpdate; refine wpList_mapUpdate_own _ rfl _ _ _ 25 rfl 9 31 law9 Yba.underlying25 _ wr.heap.size 0 _ rfl hown (by unfold maxLen; omega) _ _ _ rfl rfl hkey _ [] (ptrElem_mk (wr.heap.size + 1)) ?_; intro w1 hown1 hg1))
  go_wp2
  go_ret
  exact ⟨_, rfl, hown1, hg1⟩

theorem look {bm n : Nat} {D : DataW Unit} {wr : World} (hown : wr.ownsMap Yba.prog 9 ptrElem bm n D) {s : ByteArray} (hkey : keyOf Yba.prog 9 (.string s) = some (.string s.data.toList)) :
    ∃ o : Option Nat, (Instr.lookup 25 (.map (some bm)) (.string s) true).run Yba.prog wr = .ok (.tuple #[.pointer (o.map fun b => ⟨b, 0, none⟩), .bool (Maps.has D (.string s.data.toList))]) wr := by
  obtain ⟨v, ps, hrun, hv⟩ := (owns0 hown).look_ok law9 Yba.underlying25 (zero31 wr) (zd := .nil) (zp := []) rfl hkey
  obtain ⟨o, rfl⟩ := ptrElem0_inv hv
  exact ⟨o, hrun⟩

/-- The name is there already. -/
theorem add_old (bd bm n : Nat) (D : DataW Unit) (s : ByteArray) (hs : s.size ≤ maxLen) (wr : World) (c0 : wr.cell? ⟨bd, 0, none⟩ = some (.map (some bm)))
    (hown : wr.ownsMap Yba.prog 9 ptrElem bm n D) (hh : Maps.has D (.string s.data.toList) = true) :
    Calls Yba.prog 11 #[.pointer (some ⟨bd, 0, none⟩), .string s] wr fun e w' => ∃ v, e = .returned v ∧ w' = wr := by
  have hkey := WideMaps.keyOf_string_mk (P := Yba.prog) (k := 9) Yba.underlying9 hs
  obtain ⟨o, hlk⟩ := look hown hkey
  rw [hh] at hlk
  clear hh hkey
  go_enter Yba.func11, Yba.ntmps11
  go_wp2
  go_ret
  exact ⟨_, rfl, rfl⟩

set_option maxHeartbeats 800000 in
/-- The name is new. -/
theorem add_new (bd bm n : Nat) (D : DataW Unit) (s : ByteArray) (hs : s.size ≤ maxLen) (wr : World) (c0 : wr.cell? ⟨bd, 0, none⟩ = some (.map (some bm)))
    (hown : wr.ownsMap Yba.prog 9 ptrElem bm n D) (hn : n < maxLen) (hh : Maps.has D (.string s.data.toList) = false) :
    Calls Yba.prog 11 #[.pointer (some ⟨bd, 0, none⟩), .string s] wr fun e w' => ∃ v, e = .returned v ∧
      w'.ownsMap Yba.prog 9 ptrElem bm (n + 1) (D.put (.string s.data.toList) (.lit (.int .i64 ((wr.heap.size : Nat) : Int)))) ∧ (wr.alloc (ctx s)).grownBy w' (some bm) := by
  have hbd := World.block_lt_of_cell? _ _ c0
  simp only at hbd
  have hkey := WideMaps.keyOf_string_mk (P := Yba.prog) (k := 9) Yba.underlying9 hs
  obtain ⟨o, hlk⟩ := look hown hkey
  rw [hh] at hlk
  have hown0 := hown.alloc (ctx s)
  have heq := fun wx => run_eql_map_nil (P := Yba.prog) wx 25 9 31 (some bm) Yba.underlying25
  unfold ctx at hown0 ⊢
  clear hh
  go_enter Yba.func11, Yba.ntmps11
  go_wp2_with (first
    | (at_mapUpdate; refine wpList_mapUpdate_own _ rfl _ _ _ 25 rfl 9 31 law9 Yba.underlying25 _ bm n _ rfl hown0 hn _ _ _ rfl rfl hkey _ [] (ptrElem_mk wr.heap.size) ?_; intro w1 hown1 hg1))
  go_wp2
  go_ret
  exact ⟨_, rfl, hown1, hg1⟩
end Go.Proofs.Ybulkayuu.Add
