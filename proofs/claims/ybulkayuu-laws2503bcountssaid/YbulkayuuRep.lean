/-
  MAPS KEYED BY STRINGS WHOSE ELEMENTS ARE POINTERS TO BLOCKS OF THE CALL's OWN: what such a map reads as, as a list of (key, block number); sums over it while it is ranged over.
-/
import Derived.WalkKit
import Derived.ProofKit
import Derived.Maps.RangeWalk
import Derived.Maps.Ext
import Derived.Below
namespace Go.Proofs.Ybulkayuu.Rep
open Go.RowKit Go.Maps Go.WideShapes
open Go.WideElems (Fit rg)

abbrev Key := List UInt8
abbrev Ents := List (Key × Nat)

/-- HOW A POINTER TO A BLOCK's HEAD READS: as the block's number. -/
def ptrElem : Value → Option (DataW Unit × List MemPlace)
  | .pointer (some a) => if a.off = 0 ∧ a.spot = none then some (.lit (.int .i64 (a.block : Int)), []) else none
  | _ => none
/-- .. nil too. -/
def ptrElem0 : Value → Option (DataW Unit × List MemPlace)
  | .pointer none => some (.nil, [])
  | v => ptrElem v

theorem ptrElem_mk (b : Nat) : ptrElem (.pointer (some ⟨b, 0, none⟩)) = some (.lit (.int .i64 (b : Int)), []) := by simp [ptrElem]
theorem ptrElem_inv {v : Value} {y : DataW Unit × List MemPlace} (h : ptrElem v = some y) : ∃ b : Nat, v = .pointer (some ⟨b, 0, none⟩) ∧ y = (.lit (.int .i64 (b : Int)), []) := by
  unfold ptrElem at h
  split at h
  · rename_i a
    split at h
    · rename_i hc
      obtain ⟨b, off, spot⟩ := a
      simp at hc
      obtain ⟨rfl, rfl⟩ := hc
      cases h
      exact ⟨b, rfl, rfl⟩
    · cases h
  · cases h
theorem ptrElem0_of {v : Value} {y : DataW Unit × List MemPlace} (h : ptrElem v = some y) : ptrElem0 v = some y := by
  obtain ⟨b, rfl, rfl⟩ := ptrElem_inv h
  simp [ptrElem0, ptrElem]
theorem ptrElem0_inv {v : Value} {y : DataW Unit × List MemPlace} (h : ptrElem0 v = some y) : ∃ o : Option Nat, v = .pointer (o.map fun b => ⟨b, 0, none⟩) := by
  unfold ptrElem0 at h
  split at h
  · exact ⟨none, rfl⟩
  · obtain ⟨b, rfl, _⟩ := ptrElem_inv h
    exact ⟨some b, rfl⟩

theorem owns0 {P : Program} {w : World} {b n : Nat} {D : DataW Unit} {k : TypeId} (h : w.ownsMap P k ptrElem b n D) : w.ownsMap P k ptrElem0 b n D := by
  obtain ⟨es, clock, hb, F, hs, hD⟩ := h
  obtain ⟨F1, hmap, _⟩ := F.stay (R' := ptrElem0) (fun x _ z hz => ptrElem0_of hz)
  exact ⟨es, clock, hb, F1, hs, by rw [hmap]; exact hD⟩

theorem owns_below {P : Program} {w w' : World} {B b n : Nat} {D : DataW Unit} {k : TypeId} {R : Value → Option (DataW Unit × List MemPlace)} (h : w.ownsMap P k R b n D) (hb : Below B w w') (hlt : b < B) : w'.ownsMap P k R b n D := by
  obtain ⟨es, clock, h1, r⟩ := h
  exact ⟨es, clock, (hb.block b hlt).trans h1, r⟩

/-! ### The list that a map reads as -/
def ent (p : Key × Nat) : Lit × DataW Unit := (.string p.1, .lit (.int .i64 (p.2 : Int)))
def Rep (D : DataW Unit) (L : Ents) : Prop := ∃ l, D = .map l ∧ l.Perm (L.map ent)

theorem rep_empty : Rep (.map []) [] := ⟨[], rfl, .refl _⟩

theorem rep_size {D : DataW Unit} {L : Ents} (h : Rep D L) : Maps.size D = L.length := by
  obtain ⟨l, rfl, hp⟩ := h
  rw [Maps.size_eq, hp.length_eq, List.length_map]

theorem rep_has {D : DataW Unit} {L : Ents} (h : Rep D L) (s : Key) : Maps.has D (.string s) = L.any (fun p => p.1 == s) := by
  obtain ⟨l, rfl, hp⟩ := h
  rw [Maps.has_eq, Bool.eq_iff_iff]
  simp only [List.any_eq_true]
  constructor
  · rintro ⟨q, hq, hs⟩
    obtain ⟨p, hp', rfl⟩ := List.mem_map.1 (hp.mem_iff.1 hq)
    exact ⟨p, hp', by simpa [ent, Lit.sameKey] using hs⟩
  · rintro ⟨p, hp', hs⟩
    exact ⟨ent p, hp.mem_iff.2 (List.mem_map_of_mem hp'), by simpa [ent, Lit.sameKey] using hs⟩

/-- What a store does to the list. -/
def putE (L : Ents) (s : Key) (b : Nat) : Ents := L.filter (fun p => !(p.1 == s)) ++ [(s, b)]

theorem rep_put {D : DataW Unit} {L : Ents} (h : Rep D L) (s : Key) (b : Nat) : Rep (D.put (.string s) (.lit (.int .i64 (b : Int)))) (putE L s b) := by
  obtain ⟨l, rfl, hp⟩ := h
  refine ⟨_, DataW.put_eq _ _ _, ?_⟩
  unfold ChangeMaps.putKey
  refine (insert_perm _ _).trans ?_
  rw [putE, List.map_append]
  refine (List.Perm.cons _ (hp.filter _)).trans ?_
  have e : (L.map ent).filter (ChangeMaps.notKey (.string s)) = (L.filter (fun p => !(p.1 == s))).map ent := by
    rw [List.filter_map]
    rfl
  rw [e]
  exact (List.perm_append_comm (l₁ := [ent (s, b)])).trans (.refl _)

theorem putE_len (L : Ents) (s : Key) (b : Nat) : (putE L s b).length ≤ L.length + 1 := by
  simp only [putE, List.length_append, List.length_singleton]
  have := List.length_filter_le (fun p : Key × Nat => !(p.1 == s)) L
  omega

/-- No key twice. -/
def Apart (L : Ents) : Prop := L.Pairwise (fun p q => p.1 ≠ q.1)

theorem apart_put {L : Ents} (h : Apart L) (s : Key) (b : Nat) : Apart (putE L s b) := by
  unfold Apart putE
  rw [List.pairwise_append]
  refine ⟨h.filter _, List.pairwise_singleton _ _, ?_⟩
  intro p hp q hq
  simp only [List.mem_singleton] at hq
  subst hq
  simpa using (List.mem_filter.1 hp).2

theorem apart_eq : ∀ {L : Ents}, Apart L → ∀ {p q : Key × Nat}, p ∈ L → q ∈ L → p.1 = q.1 → p = q
  | [], _, _, _, h, _, _ => by simp at h
  | a :: r, hA, p, q, hp, hq, e => by
    obtain ⟨h1, h2⟩ := List.pairwise_cons.1 hA
    rcases List.mem_cons.1 hp with e1 | hp' <;> rcases List.mem_cons.1 hq with e2 | hq'
    · rw [e1, e2]
    · exact absurd (e1 ▸ e) (h1 q hq')
    · exact absurd (e2 ▸ e).symm (h1 p hp')
    · exact apart_eq h2 hp' hq' e

/-- What the look-up of the key says. -/
theorem rep_at {D : DataW Unit} {L : Ents} (h : Rep D L) (hA : Apart L) {s : Key} {b : Nat} (hm : (s, b) ∈ L) (z : DataW Unit) : D.atKey (.string s) z = .lit (.int .i64 (b : Int)) := by
  obtain ⟨l, rfl, hp⟩ := h
  unfold DataW.atKey
  have hin : ent (s, b) ∈ l := hp.mem_iff.2 (List.mem_map_of_mem hm)
  cases hf : l.find? (fun p => p.1.sameKey (.string s)) with
  | none =>
    have := List.find?_eq_none.1 hf _ hin
    simp [ent, Lit.sameKey] at this
  | some q =>
    have hq := List.mem_of_find?_eq_some hf
    have hs := List.find?_some hf
    obtain ⟨p, hp', rfl⟩ := List.mem_map.1 (hp.mem_iff.1 hq)
    have e : p.1 = s := by simpa [ent, Lit.sameKey] using hs
    have : p = (s, b) := apart_eq hA hp' hm e
    subst this
    simp only [hf]
    rfl

theorem rep_mem {D : DataW Unit} {L : Ents} (h : Rep D L) (hA : Apart L) {s : Key} {y : DataW Unit} (hat : ∀ z, D.atKey (.string s) z = y) : ∃ b, (s, b) ∈ L ∧ y = .lit (.int .i64 (b : Int)) := by
  have hh := Maps.has_true_of_atKey hat
  rw [rep_has h, List.any_eq_true] at hh
  obtain ⟨⟨s', b⟩, hm, hs⟩ := hh
  obtain rfl : s' = s := by simpa using hs
  exact ⟨b, hm, by rw [← hat .nil, rep_at h hA hm]⟩

/-! ### Ranging: what has been met -/
def done (L : Ents) (left : Lit → Bool) : Ents := L.filter (fun p => !left (.string p.1))

theorem done_start {D : DataW Unit} {L : Ents} (h : Rep D L) : done L (Maps.has D) = [] := by
  unfold done
  rw [List.filter_eq_nil_iff]
  intro p hp
  have : Maps.has D (.string p.1) = true := by
    rw [rep_has h, List.any_eq_true]
    exact ⟨p, hp, by simp⟩
  simp [this]

theorem done_end {L : Ents} {left : Lit → Bool} (h : ∀ k, left k = false) : done L left = L := by
  unfold done
  rw [List.filter_eq_self]
  intro p _
  simp [h]

theorem done_step : ∀ {L : Ents} {left : Lit → Bool} {s : Key} {b : Nat}, Apart L → (s, b) ∈ L → left (.string s) = true →
    (done L (fun z => left z && !z.sameKey (.string s))).Perm ((s, b) :: done L left)
  | [], _, _, _, _, h, _ => by simp at h
  | p :: r, left, s, b, hA, hm, hl => by
    obtain ⟨h1, h2⟩ := List.pairwise_cons.1 hA
    unfold done
    rcases List.mem_cons.1 hm with e | hm'
    · subst e
      have hr : r.filter (fun p => !(left (.string p.1) && !(Lit.string p.1).sameKey (.string s))) = r.filter (fun p => !left (.string p.1)) := by
        apply List.filter_congr
        intro q hq
        have : ((q.1 == s) : Bool) = false := by simpa using (h1 q hq).symm
        simp [Lit.sameKey, this]
      rw [List.filter_cons_of_pos (by simp [Lit.sameKey]), List.filter_cons_of_neg (by simp [hl]), hr]
    · have hne : (p.1 == s) = false := by
        have := h1 _ hm'
        simpa using this
      have ih := done_step (left := left) h2 hm' hl
      unfold done at ih
      by_cases hp : left (.string p.1) = true
      · rw [List.filter_cons_of_neg (by simp [hp, Lit.sameKey, hne]), List.filter_cons_of_neg (by simp [hp])]
        exact ih
      · have hp' : left (.string p.1) = false := by simpa using hp
        rw [List.filter_cons_of_pos (by simp [hp']), List.filter_cons_of_pos (by simp [hp'])]
        exact (ih.cons p).trans (List.Perm.swap _ _ _)

/-! ### Sums -/
def sumBy (f : Nat → Nat) (L : Ents) : Nat := (L.map fun p => f p.2).sum

theorem sumBy_perm {f : Nat → Nat} {L L' : Ents} (h : L.Perm L') : sumBy f L = sumBy f L' := (h.map _).sum_nat
theorem sumBy_cons (f : Nat → Nat) (p : Key × Nat) (L : Ents) : sumBy f (p :: L) = f p.2 + sumBy f L := by simp [sumBy]
theorem sumBy_step {L : Ents} {left : Lit → Bool} {s : Key} {b : Nat} (f : Nat → Nat) (hA : Apart L) (hm : (s, b) ∈ L) (hl : left (.string s) = true) :
    sumBy f (done L (fun z => left z && !z.sameKey (.string s))) = f b + sumBy f (done L left) := by
  rw [sumBy_perm (done_step hA hm hl), sumBy_cons]
theorem sumBy_le {f : Nat → Nat} {L L' : Ents} (h : L'.Sublist L) : sumBy f L' ≤ sumBy f L := by
  induction h with
  | slnil => exact Nat.le_refl _
  | cons a _ ih => rw [sumBy_cons]; omega
  | cons_cons a _ ih => rw [sumBy_cons, sumBy_cons]; omega
theorem sumBy_done_le (f : Nat → Nat) (L : Ents) (left : Lit → Bool) : sumBy f (done L left) ≤ sumBy f L := sumBy_le List.filter_sublist
theorem sumBy_bound {f : Nat → Nat} {c : Nat} (h : ∀ b, f b ≤ c) (L : Ents) : sumBy f L ≤ c * L.length := by
  induction L with
  | nil => simp [sumBy]
  | cons p r ih => rw [sumBy_cons, List.length_cons, Nat.mul_succ]; have := h p.2; omega

theorem run_makeMap_hint {P : Program} (t k e : TypeId) (ht : P.underlying t = some (.map k e)) (q : IntKind) (n : Int) (w : World) : (Instr.makeMap t (some (.int q n))).run P w = .ok (.map (some w.heap.size)) (w.alloc (.map #[] 0)) := by
  simp [Instr.makeMap, run_underlying ht, asInt, asIntOf, Result.andThen]

end Go.Proofs.Ybulkayuu.Rep
