/-
  HOW MANY DIFFERENT ONES: a set kept as a map[string]bool.
-/
import Derived.Test.YbulkayuuRep
namespace Go.Proofs.Ybulkayuu.Rep
open Go.RowKit Go.Maps Go.WideShapes

/-- How many different elements a list has. -/
def nd {α : Type} [DecidableEq α] : List α → Nat
  | [] => 0
  | x :: r => (if x ∈ r then 0 else 1) + nd r

theorem nd_le {α : Type} [DecidableEq α] : ∀ l : List α, nd l ≤ l.length
  | [] => Nat.le_refl _
  | x :: r => by
    have := nd_le r
    unfold nd
    rw [List.length_cons]
    split <;> omega

theorem nd_of_nodup {α : Type} [DecidableEq α] : ∀ (ns U : List α), U.Nodup → (∀ s, s ∈ U ↔ s ∈ ns) → U.length = nd ns
  | [], U, _, h => by
    cases U with
    | nil => rfl
    | cons a r => exact absurd ((h a).1 (by simp)) (by simp)
  | x :: r, U, hU, h => by
    unfold nd
    by_cases hx : x ∈ r
    · rw [if_pos hx, nd_of_nodup r U hU (fun s => (h s).trans (by
        rw [List.mem_cons]
        exact ⟨fun e => e.elim (fun e => e ▸ hx) id, Or.inr⟩))]
      omega
    · rw [if_neg hx]
      have hin : x ∈ U := (h x).2 (by simp)
      have := nd_of_nodup r (U.erase x) (hU.erase x) (fun s => by
        rw [hU.mem_erase_iff, h s, List.mem_cons]
        constructor
        · rintro ⟨h1, h2 | h2⟩
          · exact absurd h2 h1
          · exact h2
        · intro h1
          exact ⟨fun e => hx (e ▸ h1), Or.inr h1⟩)
      rw [List.length_erase_of_mem hin] at this
      have := List.length_pos_of_mem hin
      omega

def uniq {α : Type} [DecidableEq α] : List α → List α
  | [] => []
  | x :: r => if x ∈ r then uniq r else x :: uniq r
theorem mem_uniq {α : Type} [DecidableEq α] (s : α) : ∀ l : List α, s ∈ uniq l ↔ s ∈ l
  | [] => Iff.rfl
  | x :: r => by
    unfold uniq
    split
    · rename_i hx
      rw [mem_uniq s r, List.mem_cons]
      exact ⟨Or.inr, fun e => e.elim (fun e => e ▸ hx) id⟩
    · rw [List.mem_cons, List.mem_cons, mem_uniq s r]
theorem uniq_nodup {α : Type} [DecidableEq α] : ∀ l : List α, (uniq l).Nodup
  | [] => List.nodup_nil
  | x :: r => by
    unfold uniq
    split
    · exact uniq_nodup r
    · rename_i hx
      exact List.nodup_cons.2 ⟨fun h => hx ((mem_uniq x r).1 h), uniq_nodup r⟩

theorem nd_congr {α : Type} [DecidableEq α] {a b : List α} (h : ∀ s, s ∈ a ↔ s ∈ b) : nd a = nd b := by
  have h1 := nd_of_nodup a (uniq a) (uniq_nodup a) (fun s => mem_uniq s a)
  have h2 := nd_of_nodup b (uniq a) (uniq_nodup a) (fun s => (mem_uniq s a).trans (h s))
  omega

/-- The set of names as the map holds it. -/
def RepN (D : DataW Unit) (U : List Key) : Prop := ∃ l, D = .map l ∧ l.Perm (U.map fun s => (.string s, .lit (.bool true)))

theorem repN_empty : RepN (.map []) [] := ⟨[], rfl, .refl _⟩
theorem repN_size {D : DataW Unit} {U : List Key} (h : RepN D U) : Maps.size D = U.length := by
  obtain ⟨l, rfl, hp⟩ := h
  rw [Maps.size_eq, hp.length_eq, List.length_map]

def putN (U : List Key) (s : Key) : List Key := U.filter (fun p => !(p == s)) ++ [s]
theorem repN_put {D : DataW Unit} {U : List Key} (h : RepN D U) (s : Key) : RepN (D.put (.string s) (.lit (.bool true))) (putN U s) := by
  obtain ⟨l, rfl, hp⟩ := h
  refine ⟨_, DataW.put_eq _ _ _, ?_⟩
  unfold ChangeMaps.putKey
  refine (insert_perm _ _).trans ?_
  rw [putN, List.map_append]
  refine (List.Perm.cons _ (hp.filter _)).trans ?_
  have e : (U.map fun s => ((.string s, .lit (.bool true)) : Lit × DataW Unit)).filter (ChangeMaps.notKey (.string s)) = (U.filter (fun p => !(p == s))).map fun s => (.string s, .lit (.bool true)) := by
    rw [List.filter_map]
    rfl
  rw [e]
  exact List.perm_append_comm (l₁ := [((.string s, .lit (.bool true)) : Lit × DataW Unit)])
theorem putN_nodup {U : List Key} (h : U.Nodup) (s : Key) : (putN U s).Nodup := by
  unfold putN
  rw [List.nodup_append]
  refine ⟨h.filter _, by simp, ?_⟩
  intro a ha b hb
  simp only [List.mem_singleton] at hb
  subst hb
  simpa using (List.mem_filter.1 ha).2
theorem mem_putN {U : List Key} {s t : Key} : t ∈ putN U s ↔ t = s ∨ t ∈ U := by
  unfold putN
  rw [List.mem_append, List.mem_singleton, List.mem_filter]
  by_cases e : t = s
  · simp [e]
  · simp [e]

/-- The state of the set while the extensions are met: U: the names so far. -/
def Met (N : Nat → Key) (T : Ents) (U : List Key) : Prop := U.Nodup ∧ ∀ s, s ∈ U ↔ s ∈ T.map fun p => N p.2
theorem met_start (N : Nat → Key) : Met N [] [] := ⟨List.nodup_nil, by simp⟩
theorem met_step {N : Nat → Key} {T T' : Ents} {U : List Key} {s : Key} {b : Nat} (h : Met N T U) (hp : T'.Perm ((s, b) :: T)) : Met N T' (putN U (N b)) := by
  refine ⟨putN_nodup h.1 _, fun t => ?_⟩
  rw [mem_putN, (hp.map fun p => N p.2).mem_iff, List.map_cons, List.mem_cons, h.2]
theorem met_len {N : Nat → Key} {T : Ents} {U : List Key} (h : Met N T U) : U.length = nd (T.map fun p => N p.2) := nd_of_nodup _ _ h.1 h.2

end Go.Proofs.Ybulkayuu.Rep
