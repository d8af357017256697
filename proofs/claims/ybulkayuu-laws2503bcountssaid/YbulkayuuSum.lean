/-
  (*Dialplan).Summary (function 10): ITS CONTRACT.
-/
import Derived.Test.YbulkayuuRows
import Derived.Test.YbulkayuuNames
import Derived.WalkSmall
import Derived.Deep.QuietTactic
import Derived.BigQuiet
import Derived.RegionTactic
namespace Go.Proofs.Ybulkayuu.Sum
open Go.RowKit Go.Maps Go.WideShapes Go.Proofs.Ybulkayuu.Rep

theorem law9 : Keyed Yba.prog 9 := string_keyed Yba.underlying9
theorem invK (key : Value) (kl : Lit) (h : keyOf Yba.prog 9 key = some kl) : ∃ s, key = .string s := by
  rw [keyOf_string Yba.underlying9] at h
  cases key <;> simp [mapKey, Yba.underlying9] at h
  exact ⟨_, rfl⟩
theorem invK2 {s : ByteArray} {kl : Lit} (h : keyOf Yba.prog 9 (.string s) = some kl) : kl = .string s.data.toList := by
  rw [keyOf_string Yba.underlying9] at h
  simp [mapKey, Yba.underlying9] at h
  exact h.2.symm
theorem invV (v : Value) (y : DataW Unit × List MemPlace) (h : ptrElem v = some y) : ∃ b : Nat, v = (fun b : Nat => Value.pointer (some ⟨b, 0, none⟩)) b := by
  obtain ⟨b, rfl, _⟩ := ptrElem_inv h
  exact ⟨b, rfl⟩

/-- An extension's block: its name, how many priorities. -/
def ExtOk (w : World) (x : Nat) (nm : ByteArray) (pr : Nat) : Prop :=
  nm.size ≤ 100 ∧ w.cell? ⟨x, 0, none⟩ = some (.string nm) ∧ ∃ a c, w.cell? ⟨x, 3, none⟩ = some (.slice a pr c)
/-- A context's block: its extensions. -/
def CtxOk (w : World) (N : Nat → ByteArray) (Q : Nat → Nat) (c : Nat) (LE : Ents) : Prop :=
  (w.cell? ⟨c, 4, none⟩ = some (.map none) ∧ LE = []) ∨
  ∃ be n De, w.cell? ⟨c, 4, none⟩ = some (.map (some be)) ∧ w.ownsMap Yba.prog 9 ptrElem be n De ∧ n ≤ 1000 ∧ Rep De LE ∧ Apart LE ∧ ∀ p ∈ LE, ExtOk w p.2 (N p.2) (Q p.2)

def ndE (N : Nat → ByteArray) (E : Nat → Ents) (c : Nat) : Nat := nd ((E c).map fun p => (N p.2).data.toList)
def prE (Q : Nat → Nat) (E : Nat → Ents) (c : Nat) : Nat := sumBy Q (E c)

/-! ### A block of three cells -/
theorem blk3 {v : World} {b : Nat} {t : TypeId} {x y z : Value} (h : v.heap[b]? = some (.cells #[x, y, z] t (0, 0))) :
    (v.cell? ⟨b, 0, none⟩ = some x ∧ v.cell? ⟨b, 1, none⟩ = some y ∧ v.cell? ⟨b, 2, none⟩ = some z) ∧ ∀ j, v.frozen? ⟨b, j, none⟩ = false := by
  refine ⟨⟨?_, ?_, ?_⟩, fun j => ?_⟩
  · simp [World.cell?, h]
  · simp [World.cell?, h]
  · simp [World.cell?, h]
  · simp [World.frozen?, h]

theorem blk3_set1 {v : World} {b : Nat} {t : TypeId} {x y z u : Value} (h : v.heap[b]? = some (.cells #[x, y, z] t (0, 0))) : (v.setCell ⟨b, 1, none⟩ u).heap[b]? = some (.cells #[x, u, z] t (0, 0)) := by
  simp [World.setCell, Array.getElem?_modify, h]
theorem blk3_set2 {v : World} {b : Nat} {t : TypeId} {x y z u : Value} (h : v.heap[b]? = some (.cells #[x, y, z] t (0, 0))) : (v.setCell ⟨b, 2, none⟩ u).heap[b]? = some (.cells #[x, y, u] t (0, 0)) := by
  simp [World.setCell, Array.getElem?_modify, h]

theorem grown_setCell (v : World) (a : Addr) (u : Value) : v.grownBy (v.setCell a u) (some a.block) :=
  ⟨rfl, rfl, rfl, by simp [World.setCell], fun i _ hi => Below.heap_setCell _ _ _ _ (fun e => hi (by rw [e]))⟩

/-- What holds all through the outer loop. -/
structure Base (w v : World) (bm n : Nat) (D : DataW Unit) (left : Lit → Bool) (cnt : Nat) (x y : Int) : Prop where
  rg : v.ranges Yba.prog 9 ptrElem bm (w.heap.size + 2) n D left cnt
  be : Below w.heap.size w v
  s : v.heap[w.heap.size + 1]? = some (.cells #[.int .i64 (Maps.size D), .int .i64 x, .int .i64 y] 54 (0, 0))
  r : v.heap[w.heap.size]? = some (.cells #[.int .i64 0, .int .i64 0, .int .i64 0] 54 (0, 0))

section
variable {w v v' : World} {bm n : Nat} {D : DataW Unit} {left : Lit → Bool} {cnt : Nat} {x y : Int}

theorem Base.lt (h : Base w v bm n D left cnt x y) : w.heap.size + 2 < v.heap.size := h.rg.lt

theorem Base.kept {row : Option Nat} (h : Base w v bm n D left cnt x y) (hg : v.grownBy v' row) (hbm : bm < w.heap.size) (hr : ∀ k, row = some k → w.heap.size + 2 < k) : Base w v' bm n D left cnt x y := by
  have hlt := h.lt
  refine ⟨h.rg.kept hg (fun e => ?_) (fun e => ?_), h.be.grown hg (by omega) (fun k hk => by have := hr k hk; omega), (hg.block _ (by omega) (fun e => ?_)).trans h.s, (hg.block _ (by omega) (fun e => ?_)).trans h.r⟩
  · have := hr _ e.symm; omega
  · have := hr _ e.symm; omega
  · have := hr _ e.symm; omega
  · have := hr _ e.symm; omega

theorem Base.alloc (h : Base w v bm n D left cnt x y) (hbm : bm < w.heap.size) (o : Obj) : Base w (v.alloc o) bm n D left cnt x y :=
  h.kept (World.grownBy_alloc v o none) hbm (fun k e => by cases e)

theorem Base.drew (h : Base w v bm n D left cnt x y) : Base w v.drew bm n D left cnt x y := ⟨h.rg, h.be.drew, h.s, h.r⟩
theorem Base.drewN (h : Base w v bm n D left cnt x y) (q : Nat) : Base w (v.drewN q) bm n D left cnt x y := ⟨h.rg, below_drewN h.be q, h.s, h.r⟩

theorem Base.set1 (h : Base w v bm n D left cnt x y) (hbm : bm < w.heap.size) (u : Int) : Base w (v.setCell ⟨w.heap.size + 1, 1, none⟩ (.int .i64 u)) bm n D left cnt u y := by
  have hlt := h.lt
  refine ⟨h.rg.kept (grown_setCell v _ _) (fun e => ?_) (fun e => ?_), h.be.setCell (Nat.le_succ _) _, blk3_set1 h.s, ?_⟩
  · have := Option.some.inj e; simp only at this; omega
  · have := Option.some.inj e; simp only at this; omega
  · rw [Below.heap_setCell _ _ _ _ (by simp)]; exact h.r
theorem Base.set2 (h : Base w v bm n D left cnt x y) (hbm : bm < w.heap.size) (u : Int) : Base w (v.setCell ⟨w.heap.size + 1, 2, none⟩ (.int .i64 u)) bm n D left cnt x u := by
  have hlt := h.lt
  refine ⟨h.rg.kept (grown_setCell v _ _) (fun e => ?_) (fun e => ?_), h.be.setCell (Nat.le_succ _) _, blk3_set2 h.s, ?_⟩
  · have := Option.some.inj e; simp only at this; omega
  · have := Option.some.inj e; simp only at this; omega
  · rw [Below.heap_setCell _ _ _ _ (by simp)]; exact h.r
/-- The outer loop's own step. -/
theorem Base.next (h : Base w v bm n D left cnt x y) {left' : Lit → Bool} {cnt' : Nat} (hrg : v'.ranges Yba.prog 9 ptrElem bm (w.heap.size + 2) n D left' cnt') (hg : v.grownBy v' (some (w.heap.size + 2))) : Base w v' bm n D left' cnt' x y := by
  have hlt := h.lt
  refine ⟨hrg, h.be.grown hg (by omega) (fun k hk => by cases hk; omega), (hg.block _ (by omega) (by simp)).trans h.s, (hg.block _ (by omega) (by simp)).trans h.r⟩
end

/-- What holds all through the inner loop; bn: the block of the set of names; the iterator lies behind it. -/
structure Inner (w v : World) (bm n : Nat) (D : DataW Unit) (left : Lit → Bool) (cnt : Nat) (X Y : Int) (bn be nE : Nat) (De : DataW Unit) (LE : Ents) (N : Nat → ByteArray) (Q : Nat → Nat) (left2 : Lit → Bool) (cnt2 : Nat) (U : List Key) (m : Nat) (Dn : DataW Unit) : Prop where
  b : Base w v bm n D left cnt X (Y + (sumBy Q (done LE left2) : Nat))
  rg : v.ranges Yba.prog 9 ptrElem be (bn + 1) nE De left2 cnt2
  nm : v.ownsMap Yba.prog 9 (plainElem Yba.prog 4) bn m Dn
  rp : RepN Dn U
  met : Met (fun x => (N x).data.toList) (done LE left2) U
  mb : m + cnt2 ≤ 1000

set_option maxHeartbeats 1600000 in
theorem summary_some (bd bm n : Nat) (D : DataW Unit) (LC : Ents) (N : Nat → ByteArray) (Q : Nat → Nat) (E : Nat → Ents) (w : World)
    (hd : w.cell? ⟨bd, 0, none⟩ = some (.map (some bm))) (hown : w.ownsMap Yba.prog 9 ptrElem bm n D) (hrep : Rep D LC) (hA : Apart LC)
    (hctx : ∀ p ∈ LC, CtxOk w N Q p.2 (E p.2)) (hlc : LC.length ≤ 256) (hle : ∀ c, (E c).length ≤ 256) (hq : ∀ x, Q x ≤ 7) :
    Calls Yba.prog 10 #[.pointer (some ⟨bd, 0, none⟩)] w fun e w' =>
      e = .returned (.agg #[.int .i64 LC.length, .int .i64 (sumBy (ndE N E) LC), .int .i64 (sumBy (prE Q E) LC)]) ∧ Below w.heap.size w w' := by
  have hbm := hown.lt
  have hbd := World.block_lt_of_cell? _ _ hd
  simp only at hbd
  go_enter Yba.func10, Yba.ntmps10
  go_wp2_with (first
    | (at_len; refine wpList_len_own _ rfl _ 25 rfl 9 31 Yba.underlying25 _ bm n D rfl (hown.alloc _) ?_)
    | (at_range; go_loud (refine wpList_range_own _ rfl _ 25 rfl 9 31 law9 Yba.underlying25 _ bm n D rfl ((hown.alloc _).alloc _) ?_; intro w0 hrg0 hg0 hs0)))
  go_frame
  have e1 : ∀ a b, ((w.alloc a).alloc b).heap.size = w.heap.size + 2 := fun a b => by simp
  rw [e1] at hrg0 hs0 ⊢
  have hB0 : Base w w0 bm n D (Maps.has D) (Maps.size D) 0 0 := by
    refine ⟨hrg0, (((Below.refl _ w).alloc (Nat.le_refl _) _).alloc (by simp) _).grown hg0 (by simp; omega) (fun k e => by cases e), (hg0.block _ (by simp) (by simp)).trans ?_, (hg0.block _ (by simp; omega) (by simp)).trans ?_⟩
    · have := heap_alloc_new (w.alloc (.cells #[.int .i64 0, .int .i64 0, .int .i64 0] 54)) (.cells #[.int .i64 (Maps.size D), .int .i64 0, .int .i64 0] 54)
      rw [show (w.alloc (.cells #[.int .i64 0, .int .i64 0, .int .i64 0] 54)).heap.size = w.heap.size + 1 from by simp] at this
      exact this
    · rw [Below.heap_alloc _ _ _ (by simp)]
      exact heap_alloc_new w _
  clear hrg0 hg0 hs0 e1
  go_loopw [20] (fun _ wr => ∃ left cnt, Base w wr bm n D left cnt (sumBy (ndE N E) (done LC left)) (sumBy (prE Q E) (done LC left)))
    (fun _ wr => wr.rangeLeft bm (w.heap.size + 2))
  case atStart => exact ⟨_, _, by rw [done_start hrep]; exact hB0⟩
  case round =>
    obtain ⟨left, cnt, hB⟩ := hrel
    have hlt := hB.lt
    go_wp2_with (first
      | (at_next; refine wpList_next_ranges _ rfl _ rfl 9 law9 ptrElem Value.string (fun b : Nat => Value.pointer (some ⟨b, 0, none⟩)) invK invV bm (w.heap.size + 2) n _ _ _ rfl hB.rg ?_ ?_))
    · intro hc0 hl0
      obtain ⟨⟨c0, c1, c2⟩, _⟩ := blk3 hB.s
      obtain ⟨⟨d0, d1, d2⟩, hfr⟩ := blk3 hB.r
      have f0 := hfr 0
      have f1 := hfr 1
      have f2 := hfr 2
      clear hfr
      go_wp2
      refine bodyPost_ret (v := .agg #[.int .i64 (Maps.size D), .int .i64 (sumBy (ndE N E) (done LC left)), .int .i64 (sumBy (prE Q E) (done LC left))]) (by simp [results, Yba.results10, go_sem, d0, d1, d2]) rfl ⟨?_, ?_⟩
      · rw [done_end hl0, rep_size hrep]
      · exact ((hB.be.setCell (Nat.le_refl _) _).setCell (Nat.le_refl _) _).setCell (Nat.le_refl _) _
    · intro s c kl yv ps w1 cnt1 hkey hlk hv hat hrg1 hltc hg1 hs1 hen
      obtain rfl := invK2 hkey
      obtain ⟨b0, hm0, ey⟩ := rep_mem hrep hA hat
      obtain rfl : b0 = c := by
        obtain ⟨b1, e1, e2⟩ := ptrElem_inv hv
        cases e1
        simp only [Prod.mk.injEq] at e2
        rw [e2.1] at ey
        simp at ey
        omega
      have hB1 := hB.next hrg1 hg1
      obtain ⟨X, hX⟩ : ∃ X : Int, X = (sumBy (ndE N E) (done LC left) : Nat) := ⟨_, rfl⟩
      obtain ⟨Y, hY⟩ : ∃ Y : Int, Y = (sumBy (prE Q E) (done LC left) : Nat) := ⟨_, rfl⟩
      have hXb : 0 ≤ X ∧ X ≤ 65536 := by
        have h1 := sumBy_done_le (ndE N E) LC left
        have h2 := sumBy_bound (f := ndE N E) (c := 256) (fun b => by unfold ndE; refine Nat.le_trans (nd_le _) ?_; rw [List.length_map]; exact hle b) LC
        omega
      have hYb : 0 ≤ Y ∧ Y ≤ 458752 := by
        have h1 := sumBy_done_le (prE Q E) LC left
        have h2 := sumBy_bound (f := prE Q E) (c := 1792) (fun b => by unfold prE; have := sumBy_bound hq (E b); have := hle b; omega) LC
        omega
      rw [← hX, ← hY] at hB1
      have HX : Hid (X = (sumBy (ndE N E) (done LC left) : Nat)) := hX
      have HY : Hid (Y = (sumBy (prE Q E) (done LC left) : Nat)) := hY
      clear hX hY
      obtain ⟨hX0, hX1⟩ := hXb
      obtain ⟨hY0, hY1⟩ := hYb
      have hw1 : w.heap.size + 2 < w1.heap.size := hB1.lt
      clear hs1 hg1 hlt
      clear hrg1 hkey hv hat ey
      rcases hctx _ hm0 with ⟨hc4, hE0⟩ | ⟨be, nE, De, hc4, hownE, hnE, hrepE, hAE, hext⟩
      · -- a context without extensions
        have hbc := World.block_lt_of_cell? _ _ hc4
        simp only at hbc
        rw [← hB1.be.cell (p := ⟨b0, 4, none⟩) hbc] at hc4
        have hln : ∀ ty, (Builtin.len_ #[32] ty #[.map none]).run Yba.prog w1 = .ok (.int .i64 0) w1 := fun ty => Maps.len_nil (k := 9) (e := 40) Yba.underlying32 ty
        have hbc1 : b0 < w1.heap.size := by omega
        have hrn := run_range_nilMap (P := Yba.prog) (w1.alloc (.map #[] 0)) 32 9 40 Yba.underlying32
        have hnn : ∀ ty, (Instr.next (.pointer (some ⟨(w1.alloc (.map #[] 0)).heap.size, 0, none⟩)) false ty).run Yba.prog ((w1.alloc (.map #[] 0)).alloc (.mapIter none 0 #[] 0)) = _ := fun ty => run_next_nilMap _ ty 0 0 #[]
        have e1 : (w1.alloc (.map #[] 0)).heap.size = w1.heap.size + 1 := by simp
        rw [e1] at hrn hnn
        clear e1
        have hmk := fun q m wx => run_makeMap_hint (P := Yba.prog) 64 9 4 Yba.underlying64 q m wx
        go_wp2_with fail
        refine wp_loop_rounds 1 ?_
        rw [rounds_succ]
        have hnm := ((World.ownsMap_made w1 Yba.prog 9 (plainElem (H := Unit) Yba.prog 4)).alloc (.mapIter none 0 #[] 0))
        obtain ⟨⟨_, s1, _⟩, hfr⟩ := blk3 hB1.s
        have f1 := hfr 1
        clear hfr
        have hw2 : w.heap.size + 1 < w1.heap.size := by omega
        have hw3 : w.heap.size + 1 < w1.heap.size + 1 := by omega
        go_wp2_with (first
          | (at_len; refine wpList_len_own _ rfl _ 64 rfl 9 4 Yba.underlying64 _ w1.heap.size 0 _ rfl hnm ?_))
        have hN := ((hB1.set1 hbm (wrap64 (X + ↑(Maps.size (DataW.map [] : DataW Unit))))).alloc hbm (.map #[] 0)).alloc hbm (.mapIter none 0 #[] 0)
        go_roundw
        case rel =>
          refine ⟨fun z => left z && !z.sameKey (Lit.string s.data.toList), cnt1, ?_⟩
          rw [← show wrap64 (X + ↑(Maps.size (DataW.map [] : DataW Unit))) = ((sumBy (ndE N E) (done LC fun z => left z && !z.sameKey (Lit.string s.data.toList)) : Nat) : Int) from by
            rw [sumBy_step _ hA hm0 hlk, show ndE N E b0 = 0 from by unfold ndE; rw [show E b0 = [] from hE0]; rfl, Nat.zero_add, ← HX.out]
            show wrap64 (X + 0) = X
            unfold wrap64; omega, ← show Y = ((sumBy (prE Q E) (done LC fun z => left z && !z.sameKey (Lit.string s.data.toList)) : Nat) : Int) from by
            rw [sumBy_step _ hA hm0 hlk, show prE Q E b0 = 0 from by unfold prE; rw [show E b0 = [] from hE0]; rfl, Nat.zero_add, ← HY.out]]
          exact hN
        case measure => rw [hN.rg.left_eq, hB.rg.left_eq]; exact hltc
      · -- a context with extensions
        obtain ⟨LE, hLE⟩ : ∃ LE, LE = E b0 := ⟨_, rfl⟩
        rw [show E (s.data.toList, b0).2 = LE from hLE.symm] at hrepE hAE hext
        have hbc := World.block_lt_of_cell? _ _ hc4
        have hbe := hownE.lt
        simp only at hbc
        rw [← hB1.be.cell (p := ⟨b0, 4, none⟩) hbc] at hc4
        have hownE1 := owns_below hownE hB1.be hbe
        have hmk := fun q m wx => run_makeMap_hint (P := Yba.prog) 64 9 4 Yba.underlying64 q m wx
        have hbc1 : b0 < w1.heap.size := by omega
        have HL : Hid (LE = E b0) := hLE
        clear hLE hctx hown hd hbd hrep hB0
        go_wp2_with (first
          | (at_len; refine wpList_len_own _ rfl _ 32 rfl 9 40 Yba.underlying32 _ be nE De rfl hownE1 ?_)
          | (at_range; refine wpList_range_own _ rfl _ 32 rfl 9 40 law9 Yba.underlying32 _ be nE De rfl (hownE1.alloc _) ?_; intro w2 hrg2 hg2 hs2))
        go_frame
        have e1 : ∀ a, (w1.alloc a).heap.size = w1.heap.size + 1 := fun a => by simp
        rw [e1] at hrg2 hs2 ⊢
        have hI0 : Inner w w2 bm n D (fun z => left z && !z.sameKey (Lit.string s.data.toList)) cnt1 X Y w1.heap.size be nE De LE N Q (Maps.has De) (Maps.size De) [] 0 (.map []) := by
          refine ⟨?_, hrg2, (World.ownsMap_made w1 Yba.prog 9 (plainElem Yba.prog 4)).kept hg2 (by simp), repN_empty, by rw [done_start hrepE]; exact met_start _, by have := hownE.size_le; omega⟩
          rw [done_start hrepE]
          have := (hB1.alloc hbm (.map #[] 0)).kept hg2 hbm (fun k e => by cases e)
          simpa [sumBy] using this
        clear hrg2 hg2 hs2 e1 hmk hc4
        go_loopw [35] (fun _ wr => ∃ left2 cnt2 U m Dn, Inner w wr bm n D (fun z => left z && !z.sameKey (Lit.string s.data.toList)) cnt1 X Y w1.heap.size be nE De LE N Q left2 cnt2 U m Dn)
          (fun _ wr => wr.rangeLeft be (w1.heap.size + 1))
        case atStart => exact ⟨_, _, _, _, _, hI0⟩
        case round =>
          obtain ⟨left2, cnt2, U, m, Dn, hI⟩ := hrel
          go_wp2_with (first
            | (at_next; refine wpList_next_ranges _ rfl _ rfl 9 law9 ptrElem Value.string (fun b : Nat => Value.pointer (some ⟨b, 0, none⟩)) invK invV be (w1.heap.size + 1) nE _ _ _ rfl hI.rg ?_ ?_))
          · intro hc0 hl0
            obtain ⟨⟨_, s1, _⟩, hfr⟩ := blk3 hI.b.s
            have f1 := hfr 1
            have hsz : Maps.size Dn = nd (LE.map fun p => (N p.2).data.toList) := by
              rw [repN_size hI.rp, met_len hI.met, done_end hl0]
            have hnmx := hI.nm
            obtain ⟨z, hz⟩ : ∃ z : Nat, z = Maps.size Dn := ⟨_, rfl⟩
            have hzb : z ≤ 256 := by
              have := nd_le (LE.map fun p => (N p.2).data.toList)
              rw [List.length_map] at this
              have := hle b0
              rw [← HL.out] at this
              omega
            have HZ : Hid (z = Maps.size Dn) := hz
            have HZ2 : Hid (Maps.size Dn = nd (LE.map fun p => (N p.2).data.toList)) := hsz
            clear hfr hsz hz
            go_wp2_with (first
              | (at_len; refine wpList_len_own _ rfl _ 64 rfl 9 4 Yba.underlying64 _ w1.heap.size m Dn rfl hnmx ?_; rw [← HZ.out]))
            have hN := hI.b.set1 hbm (X + (z : Int))
            go_roundw
            case rel =>
              refine ⟨fun z => left z && !z.sameKey (Lit.string s.data.toList), cnt1, ?_⟩
              rw [← show X + (z : Int) = ((sumBy (ndE N E) (done LC fun z => left z && !z.sameKey (Lit.string s.data.toList)) : Nat) : Int) from by
                rw [sumBy_step _ hA hm0 hlk, HX.out, HZ.out, HZ2.out]
                unfold ndE
                rw [← HL.out]
                omega, ← show Y + (sumBy Q (done LE left2) : Nat) = ((sumBy (prE Q E) (done LC fun z => left z && !z.sameKey (Lit.string s.data.toList)) : Nat) : Int) from by
                rw [sumBy_step _ hA hm0 hlk, HY.out, done_end hl0]
                unfold prE
                rw [← HL.out]
                omega]
              exact hN
            case measure => rw [hN.rg.left_eq, hB.rg.left_eq]; exact hltc
          · intro s2 x kl2 yv2 ps2 w3 cnt3 hkey2 hlk2 hv2 hat2 hrg3 hltc2 hg3 hs3 hen2
            obtain rfl := invK2 hkey2
            obtain ⟨x0, hm2, ey⟩ := rep_mem hrepE hAE hat2
            obtain rfl : x0 = x := by
              obtain ⟨b1, e1, e2⟩ := ptrElem_inv hv2
              cases e1
              simp only [Prod.mk.injEq] at e2
              rw [e2.1] at ey
              simp at ey
              omega
            obtain ⟨hn100, hx0, ap, cp, hx3⟩ := hext _ hm2
            have hxb := World.block_lt_of_cell? _ _ hx0
            simp only at hxb hn100 hx0 hx3
            have hi1 : w1.heap.size + 1 < wr.heap.size := hI.rg.lt
            have hB3 := hI.b.kept hg3 hbm (fun k e => by cases e; omega)
            have hnm3 := hI.nm.kept hg3 (by simp)
            have hx0' := (hB3.be.cell (p := ⟨x0, 0, none⟩) hxb).trans hx0
            obtain ⟨nm, hnm⟩ : ∃ nm, nm = N x0 := ⟨_, rfl⟩
            obtain ⟨pr, hpr⟩ : ∃ pr, pr = Q x0 := ⟨_, rfl⟩
            rw [← hnm] at hx0' hn100
            rw [← hpr] at hx3
            have hprb : pr ≤ 7 := by rw [hpr]; exact hq _
            have HN : Hid (nm = N x0) := hnm
            have HP : Hid (pr = Q x0) := hpr
            obtain ⟨Y2, hY2⟩ : ∃ Y2 : Int, Y2 = Y + (sumBy Q (done LE left2) : Nat) := ⟨_, rfl⟩
            have hY2b : 0 ≤ Y2 ∧ Y2 ≤ 1000000 := by
              have h1 := sumBy_done_le Q LE left2
              have h2 := sumBy_bound hq LE
              have h3 := hle b0
              rw [← HL.out] at h3
              omega
            obtain ⟨hY20, hY21⟩ := hY2b
            have HY2 : Hid (Y2 = Y + (sumBy Q (done LE left2) : Nat)) := hY2
            rw [← hY2] at hB3
            clear hnm hpr hx0 hY2 ey hat2 hv2 hs3
            have hmI := hI.mb
            have hmb : m < maxLen := by unfold maxLen; omega
            go_wp2_with (first
              | (at_mapUpdate; refine wpList_mapUpdate_own _ rfl _ _ _ 64 rfl 9 4 law9 Yba.underlying64 _ w1.heap.size m Dn rfl hnm3 hmb _ _ _ rfl rfl (WideMaps.keyOf_string_mk Yba.underlying9 (by unfold maxLen; omega)) _ [] (plainElem_bool Yba.underlying4 true) ?_; intro w4 hnm4 hg4))
            go_frame
            have hB4 := hB3.kept hg4 hbm (fun k e => by cases e; omega)
            have hrg4 := hrg3.kept hg4 (fun e => by have := Option.some.inj e; omega) (fun e => by have := Option.some.inj e; omega)
            have hx3' := (hB4.be.cell (p := ⟨x0, 3, none⟩) hxb).trans hx3
            obtain ⟨⟨_, _, s2c⟩, hfr⟩ := blk3 hB4.s
            have f2 := hfr 2
            have hmet := met_step hI.met (done_step hAE hm2 hlk2)
            have hrp := repN_put hI.rp (N x0).data.toList
            have hY3 : Y2 + (pr : Int) = Y + (sumBy Q (done LE fun z => left2 z && !z.sameKey (Lit.string s2.data.toList)) : Nat) := by
              rw [sumBy_step _ hAE hm2 hlk2, HY2.out, HP.out]
              omega
            have hnm4' : w4.ownsMap Yba.prog 9 (plainElem Yba.prog 4) w1.heap.size (m + 1) (Dn.put (Lit.string (N x0).data.toList) (.lit (.bool true))) := by rw [← HN.out]; exact hnm4
            have hF : Inner w ((w4.setCell ⟨w.heap.size + 1, 2, none⟩ (.int .i64 (Y2 + (pr : Int)))).drew) bm n D (fun z => left z && !z.sameKey (Lit.string s.data.toList)) cnt1 X Y w1.heap.size be nE De LE N Q
                (fun z => left2 z && !z.sameKey (Lit.string s2.data.toList)) cnt3 (putN U (N x0).data.toList) (m + 1) (Dn.put (Lit.string (N x0).data.toList) (.lit (.bool true))) := by
              refine ⟨?_, ?_, ?_, hrp, hmet, by omega⟩
              · rw [← hY3]
                exact (hB4.set2 hbm (Y2 + (pr : Int))).drew
              · have h5 := hrg4.kept (grown_setCell w4 ⟨w.heap.size + 1, 2, none⟩ (.int .i64 (Y2 + (pr : Int)))) (fun e => by have := Option.some.inj e; simp only at this; omega) (fun e => by have := Option.some.inj e; simp only at this; omega)
                exact h5
              · have h5 := hnm4'.setCell (a := ⟨w.heap.size + 1, 2, none⟩) (by simp only; omega) (.int .i64 (Y2 + (pr : Int)))
                exact h5
            have HF : Hid (Inner w ((w4.setCell ⟨w.heap.size + 1, 2, none⟩ (.int .i64 (Y2 + (pr : Int)))).drew) bm n D (fun z => left z && !z.sameKey (Lit.string s.data.toList)) cnt1 X Y w1.heap.size be nE De LE N Q
                (fun z => left2 z && !z.sameKey (Lit.string s2.data.toList)) cnt3 (putN U (N x0).data.toList) (m + 1) (Dn.put (Lit.string (N x0).data.toList) (.lit (.bool true)))) := hF
            have hlf : wr.rangeLeft be (w1.heap.size + 1) = cnt2 := hI.rg.left_eq
            have HLF : Hid (wr.rangeLeft be (w1.heap.size + 1) = cnt2) := hlf
            clear hF hlf hfr hmet hrp hY3 hnm4' hnm4 hrg4 hrg3 hB3 hnm3 hx0' hg3 hg4
            go_region
            go_roundw
            case rel => first | exact ⟨_, _, _, _, _, HF.out⟩ | ((repeat apply Exists.intro); exact ⟨⟨_, _, _, _, _, HF.out⟩, rfl⟩)
            case measure => rw [(HF.out).rg.left_eq, HLF.out]; exact hltc2

/-- No contexts at all (a nil map). -/
theorem summary_nil (bd : Nat) (w : World) (hd : w.cell? ⟨bd, 0, none⟩ = some (.map none)) :
    Calls Yba.prog 10 #[.pointer (some ⟨bd, 0, none⟩)] w fun e w' => e = .returned (.agg #[.int .i64 0, .int .i64 0, .int .i64 0]) ∧ Below w.heap.size w w' := by
  have hbd := World.block_lt_of_cell? _ _ hd
  simp only at hbd
  have hln : ∀ wx ty, (Builtin.len_ #[25] ty #[.map none]).run Yba.prog wx = .ok (.int .i64 0) wx := fun wx ty => Maps.len_nil (k := 9) (e := 31) Yba.underlying25 ty
  have hrn := run_range_nilMap (P := Yba.prog) ((w.alloc (.cells #[.int .i64 0, .int .i64 0, .int .i64 0] 54)).alloc (.cells #[.int .i64 0, .int .i64 0, .int .i64 0] 54)) 25 9 31 Yba.underlying25
  have hnn : ∀ ty, (Instr.next (.pointer (some ⟨((w.alloc (.cells #[.int .i64 0, .int .i64 0, .int .i64 0] 54)).alloc (.cells #[.int .i64 0, .int .i64 0, .int .i64 0] 54)).heap.size, 0, none⟩)) false ty).run Yba.prog (((w.alloc (.cells #[.int .i64 0, .int .i64 0, .int .i64 0] 54)).alloc (.cells #[.int .i64 0, .int .i64 0, .int .i64 0] 54)).alloc (.mapIter none 0 #[] 0)) = _ := fun ty => run_next_nilMap _ ty 0 0 #[]
  have e1 : ((w.alloc (.cells #[.int .i64 0, .int .i64 0, .int .i64 0] 54)).alloc (.cells #[.int .i64 0, .int .i64 0, .int .i64 0] 54)).heap.size = w.heap.size + 1 + 1 := by simp
  rw [e1] at hrn hnn
  go_enter Yba.func10, Yba.ntmps10
  go_wp2
  refine wp_loop_rounds 1 ?_
  rw [rounds_succ]
  go_wp2
  refine bodyPost_ret (v := .agg #[.int .i64 0, .int .i64 0, .int .i64 0]) (by simp [results, Yba.results10, go_sem]) rfl ⟨rfl, ?_⟩
  exact (((Below.refl _ _).alloc (Nat.le_refl _) _).alloc (by simp) _).alloc (by simp; omega) _
end Go.Proofs.Ybulkayuu.Sum
