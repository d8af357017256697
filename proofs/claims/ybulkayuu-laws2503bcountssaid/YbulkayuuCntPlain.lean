/-
  THE PLAIN PART OF plan.LawS2503BCounts: which extensions stay, how many names and priorities they have: no Go in sight.
-/
import Derived.Test.YbulkayuuNames
namespace Go.Proofs.Ybulkayuu.Cnt
open Go.Proofs.Ybulkayuu.Rep

/-- The extension's key text and name text. -/
def keyB (x : Int) : ByteArray :=
  if x % 8 = 0 then ⟨#[49, 48, 48]⟩ else if x % 8 = 1 then ⟨#[49, 48, 48, 47]⟩ else if x % 8 = 2 then ⟨#[49, 48, 48, 47, 53]⟩ else if x % 8 = 3 then ⟨#[95, 88]⟩
  else if x % 8 = 4 then ⟨#[115]⟩ else if x % 8 = 5 then ⟨#[104]⟩ else if x % 8 = 6 then ⟨#[105]⟩ else ⟨#[116]⟩
def nameB (x : Int) : ByteArray :=
  if x % 4 = 0 then ⟨#[49, 48, 48]⟩ else if x % 4 = 1 then ⟨#[95, 88]⟩ else if x % 4 = 2 then ⟨#[115]⟩ else ⟨#[104]⟩

def keyOfR : Int → List UInt8
  | 0 => [49, 48, 48] | 1 => [49, 48, 48, 47] | 2 => [49, 48, 48, 47, 53] | 3 => [95, 88] | 4 => [115] | 5 => [104] | 6 => [105] | _ => [116]
def nameOfR : Int → List UInt8
  | 0 => [49, 48, 48] | 1 => [95, 88] | 2 => [115] | _ => [104]

theorem keyB_list (x : Int) : (keyB x).data.toList = keyOfR (x % 8) := by
  have h : x % 8 = 0 ∨ x % 8 = 1 ∨ x % 8 = 2 ∨ x % 8 = 3 ∨ x % 8 = 4 ∨ x % 8 = 5 ∨ x % 8 = 6 ∨ x % 8 = 7 := by omega
  unfold keyB
  rcases h with h | h | h | h | h | h | h | h <;> rw [h] <;> rfl
theorem nameB_list (x : Int) : (nameB x).data.toList = nameOfR (x % 4) := by
  have h : x % 4 = 0 ∨ x % 4 = 1 ∨ x % 4 = 2 ∨ x % 4 = 3 := by omega
  unfold nameB
  rcases h with h | h | h | h <;> rw [h] <;> rfl
theorem keyB_inj {x y : Int} : (keyB x).data.toList = (keyB y).data.toList ↔ x % 8 = y % 8 := by
  rw [keyB_list, keyB_list]
  constructor
  · have hx : x % 8 = 0 ∨ x % 8 = 1 ∨ x % 8 = 2 ∨ x % 8 = 3 ∨ x % 8 = 4 ∨ x % 8 = 5 ∨ x % 8 = 6 ∨ x % 8 = 7 := by omega
    have hy : y % 8 = 0 ∨ y % 8 = 1 ∨ y % 8 = 2 ∨ y % 8 = 3 ∨ y % 8 = 4 ∨ y % 8 = 5 ∨ y % 8 = 6 ∨ y % 8 = 7 := by omega
    rcases hx with h | h | h | h | h | h | h | h <;> rcases hy with h' | h' | h' | h' | h' | h' | h' | h' <;> rw [h, h'] <;> simp [keyOfR]
  · intro h; rw [h]
theorem nameB_inj {x y : Int} : (nameB x).data.toList = (nameB y).data.toList ↔ x % 4 = y % 4 := by
  rw [nameB_list, nameB_list]
  constructor
  · have hx : x % 4 = 0 ∨ x % 4 = 1 ∨ x % 4 = 2 ∨ x % 4 = 3 := by omega
    have hy : y % 4 = 0 ∨ y % 4 = 1 ∨ y % 4 = 2 ∨ y % 4 = 3 := by omega
    rcases hx with h | h | h | h <;> rcases hy with h' | h' | h' | h' <;> rw [h, h'] <;> simp [nameOfR]
  · intro h; rw [h]
theorem keyB_size (x : Int) : (keyB x).size ≤ 100 := by
  unfold keyB
  repeat' split
  all_goals decide
theorem nameB_size (x : Int) : (nameB x).size ≤ 100 := by
  unfold nameB
  repeat' split
  all_goals decide

/-! ### Which stay -/
/-- Of the places behind i and below t none has i's key. -/
def keptU (k : Nat → Int) (t i : Nat) : Bool := (List.range t).all fun j => !(decide (i < j) && (k j % 8 == k i % 8))
theorem keptU_start (k : Nat → Int) (i : Nat) : keptU k (i + 1) i = true := by
  unfold keptU
  rw [List.all_eq_true]
  intro j hj
  have := List.mem_range.1 hj
  have : decide (i < j) = false := by simp; omega
  simp [this]
theorem keptU_succ (k : Nat → Int) (t i : Nat) : keptU k (t + 1) i = (keptU k t i && !(decide (i < t) && (k t % 8 == k i % 8))) := by
  unfold keptU
  rw [List.range_succ, List.all_append]
  simp

/-- The names of those that stay, among the first t places of n. -/
def KN (k m : Nat → Int) (n t : Nat) : List Int := ((List.range t).filter (keptU k n)).map fun j => m j % 4
/-- .. their priorities, added up. -/
def KP (k p : Nat → Int) (n t : Nat) : Nat := (((List.range t).filter (keptU k n)).map fun j => (p j % 8).toNat).sum

theorem KN_yes {k m : Nat → Int} {n t : Nat} (h : keptU k n t = true) : KN k m n (t + 1) = KN k m n t ++ [m t % 4] := by simp [KN, List.range_succ, List.filter_append, h]
theorem KN_no {k m : Nat → Int} {n t : Nat} (h : keptU k n t = false) : KN k m n (t + 1) = KN k m n t := by simp [KN, List.range_succ, List.filter_append, h]
theorem KP_yes {k p : Nat → Int} {n t : Nat} (h : keptU k n t = true) : KP k p n (t + 1) = KP k p n t + (p t % 8).toNat := by simp [KP, List.range_succ, List.filter_append, h]
theorem KP_no {k p : Nat → Int} {n t : Nat} (h : keptU k n t = false) : KP k p n (t + 1) = KP k p n t := by simp [KP, List.range_succ, List.filter_append, h]

theorem nd_snoc {α : Type} [DecidableEq α] (l : List α) (x : α) : nd (l ++ [x]) = nd l + if x ∈ l then 0 else 1 := by
  rw [nd_congr (b := x :: l) (fun s => by simp [or_comm]), nd]
  by_cases h : x ∈ l
  · rw [if_pos h]; omega
  · rw [if_neg h]; omega

/-- No kept place below t has i's name. -/
def firstU (k m : Nat → Int) (n i t : Nat) : Bool := (List.range t).all fun j => !((m j % 4 == m i % 4) && keptU k n j)
theorem firstU_succ (k m : Nat → Int) (n i t : Nat) : firstU k m n i (t + 1) = (firstU k m n i t && !((m t % 4 == m i % 4) && keptU k n t)) := by
  unfold firstU
  rw [List.range_succ, List.all_append]
  simp
theorem firstU_iff (k m : Nat → Int) (n i : Nat) : firstU k m n i i = true ↔ m i % 4 ∉ KN k m n i := by
  unfold firstU KN
  rw [List.all_eq_true]
  constructor
  · intro h hm
    obtain ⟨j, hj, e⟩ := List.mem_map.1 hm
    obtain ⟨h1, h2⟩ := List.mem_filter.1 hj
    have := h j h1
    simp [e, h2] at this
  · intro h j hj
    by_cases e : m j % 4 = m i % 4
    · by_cases h2 : keptU k n j = true
      · exact absurd (List.mem_map.2 ⟨j, List.mem_filter.2 ⟨hj, h2⟩, e⟩) h
      · simp [h2]
    · simp [e]

theorem KN_len (k m : Nat → Int) (n t : Nat) : (KN k m n t).length ≤ t := by
  unfold KN
  rw [List.length_map]
  have := List.length_filter_le (keptU k n) (List.range t)
  rw [List.length_range] at this
  exact this
theorem KP_le (k p : Nat → Int) (n : Nat) : ∀ t, KP k p n t ≤ 7 * t
  | 0 => by simp [KP]
  | t + 1 => by
    have ih := KP_le k p n t
    by_cases h : keptU k n t = true
    · rw [KP_yes h]; omega
    · rw [KP_no (by simpa using h)]; omega

/-! ### The map that is built -/
abbrev Row := Key × ByteArray × Nat
def row (k m p : Nat → Int) (j : Nat) : Row := ((keyB (k j)).data.toList, nameB (m j), (p j % 8).toNat)
def putK (l : List Row) (r : Row) : List Row := l.filter (fun q => !(q.1 == r.1)) ++ [r]
def KL (k m p : Nat → Int) : Nat → List Row
  | 0 => []
  | t + 1 => putK (KL k m p t) (row k m p t)

theorem filter_range_congr {p q : Nat → Bool} {t : Nat} (h : ∀ j, j < t → p j = q j) : (List.range t).filter p = (List.range t).filter q :=
  List.filter_congr fun j hj => h j (List.mem_range.1 hj)

theorem KL_eq (k m p : Nat → Int) : ∀ t, KL k m p t = ((List.range t).filter (keptU k t)).map (row k m p)
  | 0 => rfl
  | t + 1 => by
    rw [KL, putK, KL_eq k m p t, List.range_succ, List.filter_append, List.map_append, List.filter_map, List.filter_filter]
    have e1 : (List.range t).filter (keptU k (t + 1)) = (List.range t).filter (fun a => ((fun q => !(q.1 == (row k m p t).1)) ∘ row k m p) a && keptU k t a) := by
      apply filter_range_congr
      intro j hj
      rw [keptU_succ]
      have e2 : ((row k m p j).1 == (row k m p t).1) = (k t % 8 == k j % 8) := by
        rw [Bool.eq_iff_iff]
        simp only [row, beq_iff_eq]
        rw [keyB_inj]
        exact ⟨fun h => h.symm, fun h => h.symm⟩
      simp only [Function.comp_apply, e2, decide_eq_true hj, Bool.true_and]
      exact Bool.and_comm _ _
    have e3 : [t].filter (keptU k (t + 1)) = [t] := by simp [keptU_start]
    rw [e1, e3]
    rfl

theorem sum_KL (k m p : Nat → Int) (n : Nat) : ((KL k m p n).map fun r => r.2.2).sum = KP k p n n := by
  rw [KL_eq, List.map_map]
  rfl
theorem nd_map_inj {α β : Type} [DecidableEq α] [DecidableEq β] (f : α → β) : ∀ (l : List α), (∀ a ∈ l, ∀ b ∈ l, f a = f b → a = b) → nd (l.map f) = nd l
  | [], _ => rfl
  | x :: r, h => by
    rw [List.map_cons, nd, nd, nd_map_inj f r (fun a ha b hb => h a (by simp [ha]) b (by simp [hb]))]
    have : f x ∈ r.map f ↔ x ∈ r := by
      constructor
      · intro hm
        obtain ⟨y, hy, e⟩ := List.mem_map.1 hm
        rw [← h y (by simp [hy]) x (by simp) e]
        exact hy
      · exact List.mem_map_of_mem
    by_cases hx : x ∈ r
    · rw [if_pos hx, if_pos (this.2 hx)]
    · rw [if_neg hx, if_neg (fun h => hx (this.1 h))]
theorem nd_KL (k m p : Nat → Int) (n : Nat) : nd ((KL k m p n).map fun r => r.2.1.data.toList) = nd (KN k m n n) := by
  rw [KL_eq, List.map_map]
  have e : ((List.range n).filter (keptU k n)).map ((fun r : Row => r.2.1.data.toList) ∘ row k m p) = (KN k m n n).map nameOfR := by
    unfold KN
    rw [List.map_map]
    apply List.map_congr_left
    intro j _
    simp [row, nameB_list]
  rw [e]
  apply nd_map_inj
  intro a ha b hb h
  unfold KN at ha hb
  obtain ⟨i, _, rfl⟩ := List.mem_map.1 ha
  obtain ⟨j, _, rfl⟩ := List.mem_map.1 hb
  rw [← nameB_list, ← nameB_list] at h
  exact nameB_inj.1 h
end Go.Proofs.Ybulkayuu.Cnt
