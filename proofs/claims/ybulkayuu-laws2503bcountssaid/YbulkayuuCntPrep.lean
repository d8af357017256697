/-
  plan.LawS2503BCounts: what the statement 'c.extensions[..] = &Extension{..}' does to memory.
-/
import Derived.Test.YbulkayuuCntInv
namespace Go.Proofs.Ybulkayuu.Cnt
open Go.RowKit Go.Maps Go.WideShapes Go.Proofs.Ybulkayuu.Rep Go.Proofs.Ybulkayuu.Sum

theorem grown_drew (v : World) : v.grownBy v.drew none := ⟨rfl, rfl, rfl, Nat.le_refl _, fun _ _ _ => rfl⟩
theorem grown_trans_none {a b c : World} (h : a.grownBy b none) (k : b.grownBy c none) : a.grownBy c none := h.andThen k (fun j e => by cases e)

theorem prep21 {v u : World} {k m p : Nat → Int} {nm : ByteArray} {N0 : Nat → ByteArray} {Q0 : Nat → Nat} {t : Nat} {LE : Ents} {N : Nat → ByteArray} {Q : Nat → Nat} {De : DataW Unit} {kx mx px : Int} {zn : Nat}
    (h : Mid v u k m p nm N0 Q0 t LE N Q De) (hsz : v.heap.size + 2 < u.heap.size) (ht : t ≤ 256) (hk : kx = k t) (hm : mx = m t) (hp : px = p t) (hz : zn = (px % 8).toNat) (S : Obj) (W : World) (hW : W = u.alloc (.cells #[.int .u8 kx, .int .u8 mx, .int .u8 px] 39)) :
    ∃ W', (Instr.mapUpdate 32 (.map (some (v.heap.size + 1))) (.string (keyB kx)) (.pointer (some ⟨W.heap.size + 1, 0, none⟩))).run Yba.prog
        (((W.alloc S).alloc (.cells #[.string (nameB mx), .bool false, .string ⟨#[]⟩, .slice (some ⟨W.heap.size, 0, none⟩) zn zn, .int .i32 0, .int .u32 0, .bool false, .map none, .pointer none] 52)).drew) = .ok () W' ∧
      (W'.cell? ⟨v.heap.size + 1 + 1, 4, none⟩ = some (.map (some (v.heap.size + 1))) ∧ W'.cell? ⟨u.heap.size, 0, none⟩ = some (.int .u8 kx) ∧ W'.cell? ⟨u.heap.size, 1, none⟩ = some (.int .u8 mx) ∧ W'.cell? ⟨u.heap.size, 2, none⟩ = some (.int .u8 px)) ∧
      ∃ LE' N' Q' De', Mid v W' k m p nm N0 Q0 (t + 1) LE' N' Q' De' ∧ v.heap.size + 2 < W'.heap.size := by
  obtain ⟨EX, hEX⟩ : ∃ EX : Obj, EX = .cells #[.string (nameB mx), .bool false, .string ⟨#[]⟩, .slice (some ⟨W.heap.size, 0, none⟩) zn zn, .int .i32 0, .int .u32 0, .bool false, .map none, .pointer none] 52 := ⟨_, rfl⟩
  rw [← hEX]
  have hWs : W.heap.size = u.heap.size + 1 := by rw [hW]; simp
  have hgW : u.grownBy W none := by rw [hW]; exact World.grownBy_alloc _ _ _
  have hg2 : u.grownBy (((W.alloc S).alloc EX).drew) none := grown_trans_none hgW (grown_trans_none (World.grownBy_alloc _ _ _) (grown_trans_none (World.grownBy_alloc _ _ _) (grown_drew _)))
  have hown2 : (((W.alloc S).alloc EX).drew).ownsMap Yba.prog 9 ptrElem (v.heap.size + 1) t De := h.own.kept hg2 (by simp)
  have hkey := WideMaps.keyOf_string_mk (P := Yba.prog) (k := 9) Yba.underlying9 (s := keyB kx) (by have := keyB_size kx; unfold maxLen; omega)
  obtain ⟨W', hrun, hown', hg'⟩ := hown2.update law9 Yba.underlying32 (by unfold maxLen; omega) hkey (ptrElem_mk (W.heap.size + 1))
  have s2 : (((W.alloc S).alloc EX).drew).heap.size = u.heap.size + 3 := by
    show ((W.alloc S).alloc EX).heap.size = _
    simp [hWs]
  have hcell : ∀ b o, b < u.heap.size + 3 → b ≠ v.heap.size + 1 → W'.cell? ⟨b, o, none⟩ = (((W.alloc S).alloc EX).drew).cell? ⟨b, o, none⟩ := fun b o h1 h2 =>
    World.cell?_of_block (w := ((W.alloc S).alloc EX).drew) (a := ⟨b, o, none⟩) (hg'.block _ (by simp only; omega) (fun e => h2 (by have := Option.some.inj e; simpa using this)))
  have hxc : ∀ o, (((W.alloc S).alloc EX).drew).cell? ⟨u.heap.size, o, none⟩ = (#[Value.int .u8 kx, .int .u8 mx, .int .u8 px])[o]? := fun o => by
    show ((W.alloc S).alloc EX).cell? _ = _
    rw [World.cell?_alloc_lt _ _ _ (by simp [hWs]; omega), World.cell?_alloc_lt _ _ _ (by simp [hWs]), hW, World.cell?_alloc_mark]
  refine ⟨W', hrun, ⟨?_, ?_, ?_, ?_⟩, putE LE (keyB (k t)).data.toList (W.heap.size + 1), upd N (W.heap.size + 1) (nameB (m t)), upd Q (W.heap.size + 1) (p t % 8).toNat, _, mid_step (b := W.heap.size + 1) h hsz hg2 (by omega) ?_ (by rw [← hk]; exact hown') hg', ?_⟩
  · rw [hcell _ _ (by omega) (by omega)]
    refine (World.cell?_of_block (w := u) (a := ⟨v.heap.size + 1 + 1, 4, none⟩) (hg2.block _ hsz (by simp))).trans ?_
    simp [World.cell?, h.c]
  · rw [hcell _ _ (by omega) (by omega), hxc]; rfl
  · rw [hcell _ _ (by omega) (by omega), hxc]; rfl
  · rw [hcell _ _ (by omega) (by omega), hxc]; rfl
  · have hEc : ∀ o, (((W.alloc S).alloc EX).drew).cell? ⟨W.heap.size + 1, o, none⟩ = (#[Value.string (nameB mx), .bool false, .string ⟨#[]⟩, .slice (some ⟨W.heap.size, 0, none⟩) zn zn, .int .i32 0, .int .u32 0, .bool false, .map none, .pointer none])[o]? := fun o => by
      show ((W.alloc S).alloc EX).cell? _ = _
      rw [show W.heap.size + 1 = (W.alloc S).heap.size from by simp, hEX, World.cell?_alloc_mark]
    refine ⟨nameB_size _, ?_, some ⟨W.heap.size, 0, none⟩, zn, ?_⟩
    · rw [hEc, ← hm]; rfl
    · rw [hEc, ← hp, ← hz]; rfl
  · have := hg'.size
    omega
end Go.Proofs.Ybulkayuu.Cnt
