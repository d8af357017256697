/-
  AddContext at every state of the dialplan that the law comes to.
-/
import Derived.Test.YbulkayuuAdd
namespace Go.Proofs.Ybulkayuu.Add
open Go.RowKit Go.Maps Go.WideShapes Go.Proofs.Ybulkayuu.Rep Go.Proofs.Ybulkayuu.Sum

/-- THE DIALPLAN in block w.heap.size: its contexts LC (none of which has extensions). -/
structure Dp (w v : World) (LC : Ents) (n : Nat) : Prop where
  be : Below w.heap.size w v
  ap : Apart LC
  lt : w.heap.size < v.heap.size
  ex : (v.heap[w.heap.size]? = some (.cells #[.map none, .map none, .int .i64 0] 28 (0, 0)) ∧ LC = []) ∨
    ∃ bm D, v.heap[w.heap.size]? = some (.cells #[.map (some bm), .map none, .int .i64 0] 28 (0, 0)) ∧ w.heap.size < bm ∧ v.ownsMap Yba.prog 9 ptrElem bm n D ∧ Rep D LC ∧
      ∀ p ∈ LC, w.heap.size < p.2 ∧ p.2 ≠ bm ∧ v.cell? ⟨p.2, 4, none⟩ = some (.map none)

theorem Dp.drewN {w v : World} {LC : Ents} {n : Nat} (h : Dp w v LC n) (q : Nat) : Dp w (v.drewN q) LC n := ⟨below_drewN h.be q, h.ap, h.lt, h.ex⟩
theorem Dp.mono {w v : World} {LC : Ents} {n : Nat} (h : Dp w v LC n) (m : Nat) (hm : n ≤ m) : Dp w v LC m := by
  refine ⟨h.be, h.ap, h.lt, ?_⟩
  rcases h.ex with h1 | ⟨bm, D, h1, h2, h3, h4⟩
  · exact Or.inl h1
  · exact Or.inr ⟨bm, D, h1, h2, h3.mono hm, h4⟩

theorem dp_start (w : World) : Dp w (w.alloc (.cells #[.map none, .map none, .int .i64 0] 28)) [] 0 :=
  ⟨(Below.refl _ _).alloc (Nat.le_refl _) _, List.Pairwise.nil, by simp, Or.inl ⟨by have : (w.alloc (.cells #[.map none, .map none, .int .i64 0] 28)).heap[w.heap.size]? = _ := heap_alloc_new w _; exact this, rfl⟩⟩

theorem blk3_set0 {v : World} {b : Nat} {t : TypeId} {x y z u : Value} (h : v.heap[b]? = some (.cells #[x, y, z] t (0, 0))) : (v.setCell ⟨b, 0, none⟩ u).heap[b]? = some (.cells #[u, y, z] t (0, 0)) := by
  simp [World.setCell, Array.getElem?_modify, h]

theorem add_any (w wr : World) (LC : Ents) (n : Nat) (s : ByteArray) (hs : s.size ≤ maxLen) (hn : n < maxLen) (h : Dp w wr LC n) :
    Calls Yba.prog 11 #[.pointer (some ⟨w.heap.size, 0, none⟩), .string s] wr fun e w' => ∃ v, e = .returned v ∧ ∃ LC', Dp w w' LC' (n + 1) ∧ ∀ t, t ∈ LC'.map Prod.fst ↔ t = s.data.toList ∨ t ∈ LC.map Prod.fst := by
  have hlt := h.lt
  rcases h.ex with ⟨h1, rfl⟩ | ⟨bm, D, h1, h2, h3, h4, h5⟩
  · -- no contexts yet
    obtain ⟨⟨c0, _, _⟩, hf⟩ := blk3 h1
    refine (add_nil w.heap.size s hs wr c0 (hf 0)).mono ?_
    rintro e w' ⟨v, rfl, hown, hg⟩
    refine ⟨v, rfl, [(s.data.toList, wr.heap.size + 1)], ⟨?_, List.pairwise_singleton _ _, ?_, Or.inr ⟨wr.heap.size, _, ?_, by omega, hown.mono (by omega), ?_, ?_⟩⟩, fun t => by simp⟩
    · refine (((h.be.setCell (p := ⟨w.heap.size, 0, none⟩) (Nat.le_refl _) _).alloc (by simp [World.setCell]; omega) _).alloc (by simp [World.setCell]; omega) _).grown hg (by simp [World.setCell]; omega) (fun k e => by cases e; omega)
    · have := hg.size; simp [World.setCell] at this; omega
    · refine (hg.block _ (by simp [World.setCell]; omega) (by simp; omega)).trans ?_
      rw [Below.heap_alloc _ _ _ (by simp [World.setCell]; omega), Below.heap_alloc _ _ _ (by simp [World.setCell]; omega)]
      exact blk3_set0 h1
    · have := rep_put (rep_empty) s.data.toList (wr.heap.size + 1)
      simpa [putE] using this
    · intro p hp
      simp only [List.mem_singleton] at hp
      subst hp
      refine ⟨by simp only; omega, by simp only; omega, ?_⟩
      refine hg.cell ?_ (by simp)
      have e : wr.heap.size + 1 = ((wr.setCell ⟨w.heap.size, 0, none⟩ (.map (some wr.heap.size))).alloc (.map #[] 0)).heap.size := by simp [World.setCell]
      rw [e]
      unfold ctx
      rw [World.cell?_alloc_mark]
      rfl
  · obtain ⟨⟨c0, _, _⟩, hf⟩ := blk3 h1
    have hhas := rep_has h4 s.data.toList
    cases hb : Maps.has D (.string s.data.toList) with
    | true =>
      refine (add_old w.heap.size bm n D s hs wr c0 h3 hb).mono ?_
      rintro e w' ⟨v, rfl, rfl⟩
      refine ⟨v, rfl, LC, h.mono (n + 1) (by omega), fun t => ⟨Or.inr, fun ht => ht.elim (fun e => ?_) id⟩⟩
      rw [hb] at hhas
      obtain ⟨p, hp, hps⟩ := List.any_eq_true.1 hhas.symm
      rw [e]
      exact List.mem_map.2 ⟨p, hp, by simpa using hps⟩
    | false =>
      have hbl := h3.lt
      refine (add_new w.heap.size bm n D s hs wr c0 h3 hn hb).mono ?_
      rintro e w' ⟨v, rfl, hown, hg⟩
      rw [hb] at hhas
      have hno : ∀ p ∈ LC, p.1 ≠ s.data.toList := fun p hp e => by
        have := List.any_eq_false.1 hhas.symm p hp
        simp [e] at this
      refine ⟨v, rfl, putE LC s.data.toList wr.heap.size, ⟨?_, apart_put h.ap _ _, ?_, Or.inr ⟨bm, _, ?_, h2, hown, rep_put h4 _ _, ?_⟩⟩, fun t => ?_⟩
      · exact (h.be.alloc (by omega) _).grown hg (by simp; omega) (fun k e => by cases e; omega)
      · have := hg.size; simp at this; omega
      · refine (hg.block _ (by simp; omega) (by simp; omega)).trans ?_
        rw [Below.heap_alloc _ _ _ (by omega)]
        exact h1
      · intro p hp
        unfold putE at hp
        rcases List.mem_append.1 hp with hp | hp
        · obtain ⟨q1, q2, q3⟩ := h5 p (List.mem_filter.1 hp).1
          refine ⟨q1, q2, hg.cell ?_ (by simpa using q2)⟩
          rw [World.cell?_alloc_lt _ _ _ (World.block_lt_of_cell? _ _ q3)]
          exact q3
        · simp only [List.mem_singleton] at hp
          subst hp
          refine ⟨by simp only; omega, by simp only; omega, hg.cell ?_ (by simp; omega)⟩
          unfold ctx
          rw [World.cell?_alloc_mark]
          rfl
      · unfold putE
        rw [List.filter_eq_self.2 (fun p hp => by simpa using hno p hp)]
        simp [or_comm]
end Go.Proofs.Ybulkayuu.Add
