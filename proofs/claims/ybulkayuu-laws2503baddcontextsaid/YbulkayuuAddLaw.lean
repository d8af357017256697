/-
  'Rows.LawS2503BAddContextSaid': plan.LawS2503BAddContext (function 4).
-/
import Derived.Test.YbulkayuuAddAny
import Derived.OpenShut
import Derived.ShutString
import Derived.ChangeOld
import Derived.SliceStrings
namespace Go.Proofs.Ybulkayuu.lawS2503BAddContext
open Go.ChangeShapes Go.WideShapes Go.ChangeAt Go.RowKit Go.Proofs.Ybulkayuu.Rep Go.Proofs.Ybulkayuu.Sum Go.Proofs.Ybulkayuu.Add
set_option linter.unusedVariables false

theorem own : ownKnob Yba.prog.godebug = none := by kernel_rfl
theorem laidOut : laidOutB Yba.prog = true := by kernel_rfl

/-- What the walk is told of the names. -/
def Strs (w : World) (a : Option Addr) (n : Nat) (S : Nat → ByteArray) : Prop :=
  ∀ i, i < n → ∃ b off, a = some ⟨b, off, none⟩ ∧ b < w.heap.size ∧ w.cell? ⟨b, off + i, none⟩ = some (.string (S i)) ∧ (S i).size ≤ maxLen

/-- The first k names. -/
def ns (S : Nat → ByteArray) (k : Nat) : List Key := (List.range k).map fun i => (S i).data.toList
theorem ns_succ (S : Nat → ByteArray) (k : Nat) : ns S (k + 1) = ns S k ++ [(S k).data.toList] := by simp [ns, List.range_succ]

theorem mem_hit {S : Nat → ByteArray} {x y : ByteArray} {q : Nat} (hx : x = S q) (h : (x.toList == y.toList) = true) : Value.bool false = Value.bool (!decide (y.data.toList ∈ ns S (q + 1))) := by
  have e : x.toList = y.toList := by simpa using h
  rw [ByteArray.toList_eq, ByteArray.toList_eq, hx] at e
  rw [ns_succ, ← e]
  simp
theorem mem_miss {S : Nat → ByteArray} {x y : ByteArray} {q : Nat} (hx : x = S q) (h : (x.toList == y.toList) = false) : Value.bool (!decide (y.data.toList ∈ ns S q)) = Value.bool (!decide (y.data.toList ∈ ns S (q + 1))) := by
  have e : ¬ x.toList = y.toList := by simpa using h
  rw [ByteArray.toList_eq, ByteArray.toList_eq, hx] at e
  have e' : ¬ y.data.toList = (S q).data.toList := fun h => e h.symm
  rw [ns_succ]
  simp [e']
theorem nd_succ (S : Nat → ByteArray) (m : Nat) : nd (ns S (m + 1)) = nd (ns S m) + if (S m).data.toList ∈ ns S m then 0 else 1 := by
  rw [ns_succ, nd_congr (b := (S m).data.toList :: ns S m) (fun s => by simp [or_comm])]
  rw [nd]
  by_cases h : (S m).data.toList ∈ ns S m
  · rw [if_pos h, if_pos h]; omega
  · rw [if_neg h, if_neg h]; omega
theorem nd_ns_le (S : Nat → ByteArray) (m : Nat) : nd (ns S m) ≤ m := by
  have := nd_le (ns S m)
  simpa [ns] using this

/-- What Summary gives at the end. -/
theorem sum_at {w v : World} {LC : Ents} {n : Nat} {S : Nat → ByteArray} (h : Dp w v LC n) (hn : n ≤ 256) (hk : ∀ t, t ∈ LC.map Prod.fst ↔ t ∈ ns S n) :
    Calls Yba.prog 10 #[.pointer (some ⟨w.heap.size, 0, none⟩)] v fun e w' => e = .returned (.agg #[.int .i64 (nd (ns S n) : Nat), .int .i64 0, .int .i64 0]) ∧ Below v.heap.size v w' := by
  have hlen : LC.length = nd (ns S n) := by
    rw [← List.length_map (f := Prod.fst)]
    exact nd_of_nodup _ _ (List.pairwise_map.2 h.ap) hk
  have hb := nd_ns_le S n
  rcases h.ex with ⟨h1, rfl⟩ | ⟨bm, D, h1, h2, h3, h4, h5⟩
  · obtain ⟨⟨c0, _, _⟩, _⟩ := blk3 h1
    rw [← hlen]
    exact summary_nil _ v c0
  · obtain ⟨⟨c0, _, _⟩, _⟩ := blk3 h1
    have := summary_some w.heap.size bm n D LC (fun _ => ByteArray.empty) (fun _ => 0) (fun _ => []) v c0 h3 h4 h.ap (fun p hp => Or.inl ⟨(h5 p hp).2.2, rfl⟩) (by omega) (fun _ => Nat.zero_le _) (fun _ => Nat.zero_le _)
    have z1 : sumBy (ndE (fun _ => ByteArray.empty) fun _ => []) LC = 0 := by
      have := sumBy_bound (f := ndE (fun _ => ByteArray.empty) fun _ => []) (c := 0) (fun _ => Nat.le_refl _) LC
      omega
    have z2 : sumBy (prE (fun _ => 0) fun _ => []) LC = 0 := by
      have := sumBy_bound (f := prE (fun _ => 0) fun _ => []) (c := 0) (fun _ => Nat.le_refl _) LC
      omega
    rw [z1, z2, hlen] at this
    exact this

set_option maxHeartbeats 1600000 in
theorem walk (a0 : Option Addr) (n c : Nat) (S : Nat → ByteArray) (w : World) (h0 : Strs w a0 n S) (hm0 : n ≤ maxLen) :
    Calls Yba.prog 4 #[.slice a0 n c] w fun e w' => e = .returned (.bool true) ∧ Below w.heap.size w w' := by
  unfold maxLen at hm0
  by_cases hbig : (256 : Int) < (n : Int)
  · go_enter Yba.func4, Yba.ntmps4
    go_wp2
    go_ret
    exact ⟨rfl, Below.refl _ _⟩
  have hD0 := dp_start w
  go_enter Yba.func4, Yba.ntmps4
  go_wp2_with fail
  go_loopw [18] (fun i wr => ∃ k LC, k ≤ n ∧ i = .int .i64 (k : Nat) ∧ Dp w wr LC k ∧ ∀ t, t ∈ LC.map Prod.fst ↔ t ∈ ns S k) (fun i _ => n - (intOf i).toNat)
  case atStart => exact ⟨0, [], Nat.zero_le _, rfl, hD0, by simp [ns]⟩
  case round =>
    obtain ⟨k, LC, hk, rfl, hD, hkeys⟩ := hrel
    by_cases hlt : k < n
    · obtain ⟨b, off, rfl, hb, hc, hsz⟩ := h0 k hlt
      rw [← hD.be.cell (p := ⟨b, off + k, none⟩) hb] at hc
      obtain ⟨s, hs⟩ : ∃ s, s = S k := ⟨_, rfl⟩
      rw [← hs] at hc hsz
      have HS : Hid (s = S k) := hs
      have HK : Hid (∀ t, t ∈ LC.map Prod.fst ↔ t ∈ ns S k) := hkeys
      clear hs hkeys hD0
      go_wp2_with (go_at_call 11; refine (add_any w wr LC k s hsz (by unfold maxLen; omega) hD).mono ?_; rintro e w1 ⟨v, rfl, LC', hD1, hkeys1⟩)
      go_roundw
      case rel =>
        refine ⟨k + 1, LC', by omega, by go_num, hD1, fun t => ?_⟩
        rw [hkeys1, ns_succ, List.mem_append, List.mem_singleton, HK.out, HS.out]
        exact or_comm
      case measure => simp [intOf]; omega
    · obtain rfl : k = n := by omega
      have HK : Hid (∀ t, t ∈ LC.map Prod.fst ↔ t ∈ ns S k) := hkeys
      clear hkeys hD0
      go_wp2_with fail
      go_loopw [6, 7] (fun wt i wx => ∃ m : Nat, m ≤ k ∧ i = .int .i64 m ∧ wt = .int .i64 (nd (ns S m) : Nat) ∧ Dp w wx LC k) (fun _ i _ => k - (intOf i).toNat)
      case atStart => exact ⟨0, Nat.zero_le _, rfl, rfl, hD⟩
      case round =>
        obtain ⟨wo, rfl⟩ : ∃ wo : World, wo = wr := ⟨_, rfl⟩
        obtain ⟨m, hmk, rfl, rfl, hDm⟩ := hrel
        by_cases hlt2 : m < k
        · obtain ⟨b, off, rfl, hb, hc, hsz⟩ := h0 m hlt2
          have hlt3 : (m : Int) < (k : Int) := by omega
          go_wp2_with fail
          go_loopw [8, 9] (fun f j wx => ∃ q : Nat, q ≤ m ∧ j = .int .i64 q ∧ f = .bool (!decide ((S m).data.toList ∈ ns S q)) ∧ Dp w wx LC k) (fun _ j _ => m - (intOf j).toNat)
          case atStart => exact ⟨0, Nat.zero_le _, rfl, by simp [ns], hDm⟩
          case round =>
            obtain ⟨q, hqm, rfl, rfl, hDq⟩ := hrel
            by_cases hlt4 : q < m
            · obtain ⟨b', off', e1, hb', hc', _⟩ := h0 q (by omega)
              cases e1
              rw [← hDq.be.cell (p := ⟨b, off + q, none⟩) hb] at hc'
              rw [← hDq.be.cell (p := ⟨b, off + m, none⟩) hb] at hc
              have hlt5 : (q : Int) < (k : Int) := by omega
              have hlt6 : (q : Int) < (m : Int) := by omega
              obtain ⟨x, hx⟩ : ∃ x, x = S q := ⟨_, rfl⟩
              obtain ⟨y, hy⟩ : ∃ y, y = S m := ⟨_, rfl⟩
              rw [← hx] at hc'
              rw [← hy] at hc
              have HX : Hid (x = S q) := hx
              have HY : Hid (y = S m) := hy
              rw [← hy]
              clear hx hy
              go_wp2
              go_quiet (fail)
              go_wp2
              · go_roundw
                case rel => exact ⟨q + 1, by omega, by go_num, mem_hit HX.out (by assumption), hDq.drewN _⟩
                case measure => simp [intOf]; omega
              · go_roundw
                case rel => exact ⟨q + 1, by omega, by go_num, mem_miss HX.out (by assumption), hDq.drewN _⟩
                case measure => simp [intOf]; omega
            · obtain rfl : q = m := by omega
              have hns := nd_succ S q
              have hnb := nd_ns_le S q
              by_cases hin : (S q).data.toList ∈ ns S q
              · rw [if_pos hin] at hns
                have HN : Hid (nd (ns S (q + 1)) = nd (ns S q) + 0) := hns
                rw [show decide ((S q).data.toList ∈ ns S q) = true from decide_eq_true hin]
                clear hns hin
                go_wp2
                go_roundw
                case rel => exact ⟨q + 1, by omega, by go_num, by rw [HN.out]; rfl, hDq⟩
                case measure => simp [intOf]; omega
              · rw [if_neg hin] at hns
                have HN : Hid (nd (ns S (q + 1)) = nd (ns S q) + 1) := hns
                rw [show decide ((S q).data.toList ∈ ns S q) = false from decide_eq_false hin]
                clear hns hin
                go_wp2
                go_roundw
                case rel => exact ⟨q + 1, by omega, by go_num, by rw [HN.out]; go_num, hDq⟩
                case measure => simp [intOf]; omega
        · obtain rfl : m = k := by omega
          obtain ⟨z, hz⟩ : ∃ z : Nat, z = nd (ns S m) := ⟨_, rfl⟩
          have hsum := sum_at hDm (by omega) HK.out
          rw [← hz] at hsum ⊢
          have HSUM : Hid (Calls Yba.prog 10 #[.pointer (some ⟨w.heap.size, 0, none⟩)] wo fun e w' => e = .returned (.agg #[.int .i64 (z : Nat), .int .i64 0, .int .i64 0]) ∧ Below wo.heap.size wo w') := hsum
          clear hsum hz
          go_wp2_with fail
          refine HSUM.out.mono ?_
          rintro e w1 ⟨rfl, hb1⟩
          go_wp2
          go_ret
          exact ⟨rfl, (hDm.be.trans (hb1.mono hDm.be.size)).alloc (Nat.le_trans hDm.be.size hb1.size) _⟩

/-! ### THE ROW's STEP -/
set_option maxRecDepth 100000 in
theorem lifted (os : Os) (started : os.Started) (H : Type) (enc : TypeId × Value → H) :
    ReturnsInHanded {} Yba.checked os 4 .any (Rows.lawS2503BAddContextSpec.pre6 enc Yba.prog Yba.f4 Rows.lawS2503BAddContextRow.domain false) (Rows.lawS2503BAddContextSpec.post enc Yba.prog Yba.f4 false true false false) := by
  refine returnsInHanded_of_change (C := Yba.checked) own started (by kernel_rfl) Yba.func4
    (ChangeSpec.witness6 (enc := enc) (C := Yba.checked) false ⟨#[], #[.slice none 0 0], []⟩ 8 (by kernel_rfl) (by kernel_rfl) (by kernel_rfl) (by kernel_rfl)) ?_
  intro W base args ds gs before hval0 hW hcnd _
  have hval : ∀ (j : Nat) t v, Yba.f4.params[j]? = some t → args[j]? = some v → Value.okWide Yba.prog W .any base t v := hval0
  have hW' := hW
  obtain ⟨p, q, hA0, hV, rfl, hfz, hnd⟩ := hW
  have hA : DataW.TrodAll enc Yba.prog W 0 (fun _ => true) true Yba.f4.params.toList args.toList ds p := hA0
  rw [Yba.params4] at hA hval
  obtain ⟨v0, vs0, d0, ds0, p0, q0, hargs, rfl, rfl, h0, r0⟩ := trodAll_cons hA
  obtain ⟨rfl, rfl, rfl⟩ := trodAll_nil r0
  obtain rfl : args = #[v0] := by cases args; simp_all
  obtain ⟨rfl, rfl⟩ := trodVars_none hV
  obtain ⟨a0, len0, cap0, rfl⟩ := okWide_slice Yba.underlying33 (hval 0 33 v0 rfl rfl)
  have k0 := h0
  have lt0 : ∀ x ∈ p0, x.block < W.heap.size := by obtain ⟨m, hm⟩ := k0; exact DataW.trod_lt m _ _ _ hm
  obtain ⟨S, w0, m0⟩ : ∃ S, Strs W a0 len0 S ∧ len0 ≤ maxLen := by
    obtain ⟨fuel, hf⟩ := h0
    rcases open_strings Yba.underlying33 Yba.underlying9 (by kernel_rfl) hf with ⟨hcs, _⟩ | ⟨x, l, c, ss, hcs, hb, hl, hm, hz, _, hcell, hws⟩
    · simp [Value.cells] at hcs
      obtain ⟨rfl, rfl, rfl⟩ := hcs
      exact ⟨fun _ => ByteArray.empty, fun i hi => absurd hi (by omega), by unfold maxLen; omega⟩
    · simp [Value.cells] at hcs
      obtain ⟨rfl, rfl, rfl⟩ := hcs
      have hz' : ss.length = cap0 := by simpa using hz
      refine ⟨fun i => ss.getD i ByteArray.empty, fun i hi => ?_, by omega⟩
      obtain ⟨b, off, spot⟩ := x
      have hc := hcell i (by omega)
      have hspot : spot = none := by simpa [Addr.add] using World.cell?_spot (hcell 0 (by omega))
      subst hspot
      rw [add_plain] at hc
      exact ⟨b, off, rfl, World.block_lt_of_cell? _ _ hc, hc, hws (ss.getD i ByteArray.empty) (by rw [List.getD_eq_getElem?_getD, List.getElem?_eq_getElem (by omega)]; simp)⟩
  clear hA0 hval0
  refine (walk a0 len0 cap0 S W w0 m0).mono fun e W' ⟨he, bel⟩ => ?_
  subst he
  exact ⟨_, rfl, _, _, _, [], _, [], hW', trodAll_mk1 (shut_bool Yba.underlying4 _), (trodAll_cons_mk (Below.trod laidOut (by kernel_rfl) (of_decide_eq_true (by kernel_rfl)) k0 bel lt0) trodAll_mk0), rfl, bel.frame _, fun h => by cases h⟩

theorem over : Rows.lawS2503BAddContextRow.holds Yba.pinned (OpenSpec.ofChange Rows.lawS2503BAddContextSpec) :=
  OpenClaim.holds_of_wide 4 Yba.f4 rfl rfl rfl rfl rfl rfl rfl ⟨rfl, rfl, rfl, rfl, rfl⟩ rfl rfl rfl rfl rfl (by kernel_rfl) Yba.func4 (by kernel_rfl)
    (of_decide_eq_true (by kernel_rfl)) (by unfold Func.isWrapper; first | (rw [if_pos (by decide +kernel)]; kernel_rfl) | (rw [if_neg (by decide +kernel)]; exact ⟨rfl, rfl⟩))
    (fun os started H enc _ => lifted os started H enc)

/-- THE STATEMENT -/
theorem proved : Rows.LawS2503BAddContextSaid := over
#print axioms proved
end Go.Proofs.Ybulkayuu.lawS2503BAddContext
