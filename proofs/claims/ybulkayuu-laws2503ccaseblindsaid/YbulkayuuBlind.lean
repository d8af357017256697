/-
  'Rows.LawS2503CCaseBlindSaid': conf.LawS2503CCaseBlind (function 7) out of foldCase's contract.
-/
import Derived.Test.YbulkayuuFold
import Derived.Test.YbulkayuuBlindPlain
import Derived.OpenShut
import Derived.ShutString
import Derived.ChangeOld
import Derived.WalkSmall
import Derived.Deep.Grids
namespace Go.Proofs.Ybulkayuu.lawS2503CCaseBlind
open Go.ChangeShapes Go.WideShapes Go.ChangeAt Go.RowKit Go.Proofs.Ybulkayuu.Fold Go.Proofs.Ybulkayuu.Blind
set_option linter.unusedVariables false

theorem own : ownKnob Yba.prog.godebug = none := by kernel_rfl
theorem laidOut : laidOutB Yba.prog = true := by kernel_rfl
theorem info5 : (Yba.prog.info? 5).map (fun i => (i.zero, i.size, i.bytes)) = some (some (.int .u8 0), 1, 1) := by kernel_rfl

/-- What the walk is told of the picks: their numbers. -/
def Picks (w : World) (a : Option Addr) (n : Nat) (Z : Nat → Int) : Prop :=
  ∀ i, i < n → ∃ b off, a = some ⟨b, off, none⟩ ∧ b < w.heap.size ∧ w.cell? ⟨b, off + i, none⟩ = some (.int .u8 (Z i)) ∧ 0 ≤ Z i ∧ Z i < 256
def Caps (w : World) (a : Option Addr) (n : Nat) (B : Nat → Bool) : Prop :=
  ∀ i, i < n → ∃ b off, a = some ⟨b, off, none⟩ ∧ b < w.heap.size ∧ w.cell? ⟨b, off + i, none⟩ = some (.bool (B i))

def zrow (n : Nat) : Array Value := madeCells (Value.cells (.int .u8 0)) n
theorem mk_row (n : Nat) (hn : n ≤ 4096) (w : World) :
    (Instr.makeSlice 30 (.int .i64 (n : Int)) (.int .i64 (n : Int))).run Yba.prog w = .ok (.slice (some ⟨w.heap.size, 0, none⟩) n n) (w.alloc (.cells (zrow n) 5)) := by
  obtain ⟨i0, hi, hz0, hz1, hz2⟩ := info_parts info5
  have := run_make (P := Yba.prog) w 30 5 i0 (.int .u8 0) Yba.underlying30 hi hz0 .i64 .i64 (n : Int) (n : Int) (by omega) (Int.le_refl _) (by rw [hz2]; omega) (by omega)
  rw [this, hz1]
  simp [zrow]

/-- What the loop keeps: F, G: the bytes of the two rows. -/
def Rel (w : World) (n : Nat) (F G : Nat → Int) (k : Nat) (wr : World) : Prop :=
  (∀ j, j < n → wr.cell? ⟨w.heap.size, j, none⟩ = some (.int .u8 (if j < k then F j else 0)) ∧ wr.frozen? ⟨w.heap.size, j, none⟩ = false) ∧
  (∀ j, j < n → wr.cell? ⟨w.heap.size + 1, j, none⟩ = some (.int .u8 (if j < k then G j else 0)) ∧ wr.frozen? ⟨w.heap.size + 1, j, none⟩ = false) ∧ Below w.heap.size w wr

theorem rel_step {w wr : World} {n : Nat} {F G : Nat → Int} {k : Nat} {x y : Int} (h : Rel w n F G k wr) (hk : k < n) (hx : x = F k) (hy : y = G k) :
    Rel w n F G (k + 1) ((wr.setCell ⟨w.heap.size, k, none⟩ (.int .u8 x)).setCell ⟨w.heap.size + 1, k, none⟩ (.int .u8 y)) := by
  obtain ⟨h1, h2, h3⟩ := h
  refine ⟨fun j hj => ⟨?_, ?_⟩, fun j hj => ⟨?_, ?_⟩, (h3.setCell (Nat.le_refl _) _).setCell (Nat.le_succ _) _⟩
  · rw [World.cell?_setCell_other _ _ _ _ (by simp)]
    by_cases e : j = k
    · subst e
      rw [World.cell?_setCell_same _ _ _ (h1 j hj).1, if_pos (by omega), hx]
    · rw [World.cell?_setCell_other _ _ _ _ (fun e1 => e (by cases e1; rfl)), (h1 j hj).1]
      by_cases h : j < k
      · rw [if_pos h, if_pos (by omega)]
      · rw [if_neg h, if_neg (by omega)]
  · rw [World.frozen?_setCell, World.frozen?_setCell]; exact (h1 j hj).2
  · by_cases e : j = k
    · subst e
      rw [World.cell?_setCell_same _ _ _ (by rw [World.cell?_setCell_other _ _ _ _ (by simp)]; exact (h2 j hj).1), if_pos (by omega), hy]
    · rw [World.cell?_setCell_other _ _ _ _ (fun e1 => e (by cases e1; rfl)), World.cell?_setCell_other _ _ _ _ (by simp), (h2 j hj).1]
      by_cases h : j < k
      · rw [if_pos h, if_pos (by omega)]
      · rw [if_neg h, if_neg (by omega)]
  · rw [World.frozen?_setCell, World.frozen?_setCell]; exact (h2 j hj).2

theorem zrow_at (n j : Nat) (h : j < n) : (zrow n)[j]? = some (.int .u8 0) := by
  rw [zrow, ← Array.getElem?_toList]
  show (madeCells #[Value.int .u8 0] n).toList[j]? = _
  rw [toList_madeCells_one]
  simp [h]

theorem rel_start (w : World) (n : Nat) (F G : Nat → Int) : Rel w n F G 0 ((w.alloc (.cells (zrow n) 5)).alloc (.cells (zrow n) 5)) := by
  refine ⟨fun j hj => ⟨?_, ?_⟩, fun j hj => ⟨?_, ?_⟩, ((Below.refl _ _).alloc (Nat.le_refl _) _).alloc (by simp) _⟩
  · rw [World.cell?_alloc_lt _ _ _ (by simp), World.cell?_alloc_mark, zrow_at n j hj]
    simp
  · rw [World.frozen?_alloc_old _ _ _ (by simp), World.frozen?_alloc_mark]
    simp
  · have e : w.heap.size + 1 = (w.alloc (.cells (zrow n) 5)).heap.size := by simp
    rw [e, World.cell?_alloc_mark, zrow_at n j hj]
    simp
  · have e : w.heap.size + 1 = (w.alloc (.cells (zrow n) 5)).heap.size := by simp
    rw [e, World.frozen?_alloc_mark]
    simp

theorem back {wr : World} {b n : Nat} (l : List UInt8) (hl : l.length = n) (h : ∀ j (hj : j < l.length), wr.cell? ⟨b, j, none⟩ = some (.int .u8 (l[j].toNat : Int))) (cap : Nat) :
    (convert 30 9 (.slice (some ⟨b, 0, none⟩) n cap)).run Yba.prog wr = .ok (.string ⟨l.toArray⟩) wr := by
  subst hl
  exact run_convert_bytes_back (P := Yba.prog) wr 30 9 5 ⟨b, 0, none⟩ cap l Yba.underlying30 Yba.underlying5 Yba.underlying9 (fun j hj => by
    rw [add_plain, Nat.zero_add]
    exact h j hj)

theorem back_lo {w wr : World} {n : Nat} {Z : Nat → Int} {G : Nat → Int} (h : Rel w n (fun j => ((loB (Z j)).toNat : Int)) G n wr) (cap : Nat) :
    (convert 30 9 (.slice (some ⟨w.heap.size, 0, none⟩) n cap)).run Yba.prog wr = .ok (.string ⟨(LO n Z).toArray⟩) wr :=
  back _ (LO_len n Z) (fun j hj => by
    have hj' : j < n := by rw [LO_len] at hj; exact hj
    rw [(h.1 j hj').1, if_pos hj']
    simp [LO]) cap

theorem back_mx {w wr wx : World} {n : Nat} {Z : Nat → Int} {B : Nat → Bool} {F : Nat → Int} (h : Rel w n F (fun j => ((mxB (loB (Z j)) (B j)).toNat : Int)) n wr) (hb : Below wr.heap.size wr wx) (hz : w.heap.size + 1 < wr.heap.size) (cap : Nat) :
    (convert 30 9 (.slice (some ⟨w.heap.size + 1, 0, none⟩) n cap)).run Yba.prog wx = .ok (.string ⟨(MX n Z B).toArray⟩) wx :=
  back _ (MX_len n Z B) (fun j hj => by
    have hj' : j < n := by rw [MX_len] at hj; exact hj
    rw [hb.cell (by exact hz), (h.2.1 j hj').1, if_pos hj']
    simp [MX]) cap

theorem idx (q : Int) (h0 : 0 ≤ q) (h1 : q < 13) (w : World) :
    (Instr.index 9 (.string ⟨#[97, 98, 99, 120, 121, 122, 48, 57, 95, 45, 46, 195, 169]⟩) (.int .i64 q)).run Yba.prog w = .ok (.int .u8 ((tab.getD q.toNat 0).toNat : Int)) w := by
  have h : q = 0 ∨ q = 1 ∨ q = 2 ∨ q = 3 ∨ q = 4 ∨ q = 5 ∨ q = 6 ∨ q = 7 ∨ q = 8 ∨ q = 9 ∨ q = 10 ∨ q = 11 ∨ q = 12 := by omega
  rcases h with rfl | rfl | rfl | rfl | rfl | rfl | rfl | rfl | rfl | rfl | rfl | rfl | rfl
  all_goals rfl

set_option maxHeartbeats 1600000 in
theorem walk (a0 : Option Addr) (n0 c0 : Nat) (Z : Nat → Int) (a1 : Option Addr) (n1 c1 : Nat) (B : Nat → Bool) (w : World) (h0 : Picks w a0 n0 Z) (h1 : Caps w a1 n1 B) (hm1 : n1 ≤ maxLen) (hm0 : n0 ≤ maxLen) :
    Calls Yba.prog 7 #[.slice a0 n0 c0, .slice a1 n1 c1] w fun e w' => e = .returned (.bool true) ∧ Below w.heap.size w w' := by
  unfold maxLen at hm0 hm1
  by_cases hbig : (4096 : Int) < (n0 : Int)
  · go_enter Yba.func7, Yba.ntmps7
    go_wp2
    go_ret
    exact ⟨rfl, Below.refl _ _⟩
  have hmk := mk_row n0 (by omega)
  go_enter Yba.func7, Yba.ntmps7
  go_wp2_with fail
  go_loopw [23] (fun i wr => ∃ k : Nat, k ≤ n0 ∧ i = .int .i64 k ∧ Rel w n0 (fun j => ((loB (Z j)).toNat : Int)) (fun j => ((mxB (loB (Z j)) (decide (j < n1) && B j)).toNat : Int)) k wr ∧ w.heap.size + 1 < wr.heap.size) (fun i _ => n0 - (intOf i).toNat)
  case atStart => exact ⟨0, Nat.zero_le _, rfl, rel_start _ _ _ _, by simp⟩
  case round =>
    obtain ⟨k, hk, rfl, hR, hwz⟩ := hrel
    clear hmk
    by_cases hlt : k < n0
    · obtain ⟨b, off, rfl, hb, hc, hp0, hp1⟩ := h0 k hlt
      rw [← hR.2.2.cell (p := ⟨b, off + k, none⟩) hb] at hc
      have hw1 : (wr.cell? ⟨w.heap.size, k, none⟩) = some (.int .u8 0) := by rw [(hR.1 k hlt).1, if_neg (by omega)]
      have hw2 : (wr.cell? ⟨w.heap.size + 1, k, none⟩) = some (.int .u8 0) := by rw [(hR.2.1 k hlt).1, if_neg (by omega)]
      have hf1 := (hR.1 k hlt).2
      have hf2 := (hR.2.1 k hlt).2
      obtain ⟨p, hp⟩ : ∃ p, p = Z k := ⟨_, rfl⟩
      rw [← hp] at hc hp0 hp1
      obtain ⟨q, hq⟩ : ∃ q, q = loB p := ⟨_, rfl⟩
      have hidx : ∀ wx, (Instr.index 9 (.string ⟨#[97, 98, 99, 120, 121, 122, 48, 57, 95, 45, 46, 195, 169]⟩) (.int .i64 (p % 13))).run Yba.prog wx = .ok (.int .u8 (q.toNat : Int)) wx := fun wx => by
        rw [hq]; exact idx (p % 13) (by omega) (by omega) wx
      have HQ : Hid (q = loB (Z k)) := by rw [← hp]; exact hq
      clear hq hp
      have hq256 := q.toNat_lt
      have FIN : Hid (∀ m : Int, m = ((mxB q (decide (k < n1) && B k)).toNat : Int) → Rel w n0 (fun j => ((loB (Z j)).toNat : Int)) (fun j => ((mxB (loB (Z j)) (decide (j < n1) && B j)).toNat : Int)) (k + 1) ((wr.setCell ⟨w.heap.size, k, none⟩ (.int .u8 (q.toNat : Int))).setCell ⟨w.heap.size + 1, k, none⟩ (.int .u8 m))) :=
        fun m hm => rel_step hR hlt (by rw [HQ.out]) (by rw [hm, HQ.out])
      by_cases hk1 : k < n1
      · obtain ⟨b1, off1, rfl, hb1, hc1⟩ := h1 k hk1
        rw [← hR.2.2.cell (p := ⟨b1, off1 + k, none⟩) hb1] at hc1
        have hk1' : (k : Int) < (n1 : Int) := by omega
        clear h0 h1
        cases hbk : B k
        · rw [hbk] at hc1
          have E : Hid ((decide (k < n1) && B k) = false) := show (decide (k < n1) && B k) = false from by simp [hbk]
          clear hbk
          go_wp2_with fail
          go_roundw
          case rel => exact ⟨k + 1, by omega, by go_num, FIN.out _ (by rw [E.out, mx_false]), by simpa using hwz⟩
          case measure => simp [intOf]; omega
        · rw [hbk] at hc1
          have E : Hid ((decide (k < n1) && B k) = true) := show (decide (k < n1) && B k) = true from by simp [hbk, hk1]
          clear hbk
          by_cases hq1 : (q.toNat : Int) < 97
          · go_wp2_with fail
            go_roundw
            case rel => exact ⟨k + 1, by omega, by go_num, FIN.out _ (by rw [E.out, mx_out true (by omega)]), by simpa using hwz⟩
            case measure => simp [intOf]; omega
          · by_cases hq2 : 122 < (q.toNat : Int)
            · go_wp2_with fail
              go_roundw
              case rel => exact ⟨k + 1, by omega, by go_num, FIN.out _ (by rw [E.out, mx_out true (by omega)]), by simpa using hwz⟩
              case measure => simp [intOf]; omega
            · go_wp2_with fail
              go_roundw
              case rel => exact ⟨k + 1, by omega, by go_num, FIN.out _ (by rw [E.out, mx_hit (by omega) (by omega)]), by simpa using hwz⟩
              case measure => simp [intOf]; omega
      · have hk1' : ¬ (k : Int) < (n1 : Int) := by omega
        have e : (decide (k < n1) && B k) = false := by simp [hk1]
        have E : Hid ((decide (k < n1) && B k) = false) := e
        clear e h0 h1
        go_wp2_with fail
        go_roundw
        case rel => exact ⟨k + 1, by omega, by go_num, FIN.out _ (by rw [E.out, mx_false]), by simpa using hwz⟩
        case measure => simp [intOf]; omega
    · obtain rfl : k = n0 := by omega
      obtain ⟨l, hl⟩ : ∃ l : ByteArray, l = ⟨(LO k Z).toArray⟩ := ⟨_, rfl⟩
      obtain ⟨m, hm⟩ : ∃ m : ByteArray, m = ⟨(MX k Z (fun j => decide (j < n1) && B j)).toArray⟩ := ⟨_, rfl⟩
      have sl : l.size ≤ maxLen := by rw [hl]; show (LO k Z).toArray.size ≤ _; rw [List.size_toArray, LO_len]; unfold maxLen; omega
      have sm : m.size ≤ maxLen := by rw [hm]; show (MX k Z (fun j => decide (j < n1) && B j)).toArray.size ≤ _; rw [List.size_toArray, MX_len]; unfold maxLen; omega
      have hlo : ∀ cap, (convert 30 9 (.slice (some ⟨w.heap.size, 0, none⟩) k cap)).run Yba.prog wr = .ok (.string l) wr := fun cap => by rw [hl]; exact back_lo hR cap
      have hmx : ∀ wx, Below wr.heap.size wr wx → ∀ cap, (convert 30 9 (.slice (some ⟨w.heap.size + 1, 0, none⟩) k cap)).run Yba.prog wx = .ok (.string m) wx := fun wx hb cap => by rw [hm]; exact back_mx hR hb hwz cap
      have c1 : ∀ wx, Calls Yba.prog 12 #[.string l] wx fun e w' => e = .returned (.string l) ∧ Below wx.heap.size wx w' := fun wx => by
        have := foldCase_any l wx sl
        rw [show fold l = l from by rw [hl]; exact fold_LO k Z] at this
        exact this
      have c2 : ∀ wx, Calls Yba.prog 12 #[.string m] wx fun e w' => e = .returned (.string l) ∧ Below wx.heap.size wx w' := fun wx => by
        have := foldCase_any m wx sm
        rw [show fold m = l from by rw [hm, hl]; exact fold_MX k Z _] at this
        exact this
      have HM : Hid (∀ wx, Below wr.heap.size wr wx → ∀ cap, (convert 30 9 (.slice (some ⟨w.heap.size + 1, 0, none⟩) k cap)).run Yba.prog wx = .ok (.string m) wx) := hmx
      have C1 : Hid (∀ wx, Calls Yba.prog 12 #[.string l] wx fun e w' => e = .returned (.string l) ∧ Below wx.heap.size wx w') := c1
      have C2 : Hid (∀ wx, Calls Yba.prog 12 #[.string m] wx fun e w' => e = .returned (.string l) ∧ Below wx.heap.size wx w') := c2
      have hB := hR.2.2
      clear hmx c1 c2 hl hm sl sm h0 h1 hR
      go_wp2_with fail
      refine (C1.out _).mono ?_
      rintro e w1 ⟨rfl, hb1⟩
      have hm1 := HM.out w1 hb1
      go_wp2_with fail
      refine (C2.out _).mono ?_
      rintro e w2 ⟨rfl, hb2⟩
      go_wp2
      go_ret
      have hB1 : Below w.heap.size w w1 := hB.trans (hb1.mono hB.size)
      exact ⟨rfl, hB1.trans (hb2.mono hB1.size)⟩

/-! ### THE ROW's STEP -/
set_option maxRecDepth 100000 in
theorem lifted (os : Os) (started : os.Started) (H : Type) (enc : TypeId × Value → H) :
    ReturnsInHanded {} Yba.checked os 7 .any (Rows.lawS2503CCaseBlindSpec.pre6 enc Yba.prog Yba.f7 Rows.lawS2503CCaseBlindRow.domain false) (Rows.lawS2503CCaseBlindSpec.post enc Yba.prog Yba.f7 false true false false) := by
  refine returnsInHanded_of_change (C := Yba.checked) own started (by kernel_rfl) Yba.func7
    (ChangeSpec.witness6 (enc := enc) (C := Yba.checked) false ⟨#[], #[.slice none 0 0, .slice none 0 0], []⟩ 8 (by kernel_rfl) (by kernel_rfl) (by kernel_rfl) (by kernel_rfl)) ?_
  intro W base args ds gs before hval0 hW hcnd _
  have hval : ∀ (j : Nat) t v, Yba.f7.params[j]? = some t → args[j]? = some v → Value.okWide Yba.prog W .any base t v := hval0
  have hW' := hW
  obtain ⟨p, q, hA0, hV, rfl, hfz, hnd⟩ := hW
  have hA : DataW.TrodAll enc Yba.prog W 0 (fun _ => true) true Yba.f7.params.toList args.toList ds p := hA0
  rw [Yba.params7] at hA hval
  obtain ⟨v0, vs0, d0, ds0, p0, q0, hargs, rfl, rfl, h0, r0⟩ := trodAll_cons hA
  obtain ⟨v1, vs1, d1, ds1, p1, q1, rfl, rfl, rfl, h1, r1⟩ := trodAll_cons r0
  obtain ⟨rfl, rfl, rfl⟩ := trodAll_nil r1
  obtain rfl : args = #[v0, v1] := by cases args; simp_all
  obtain ⟨rfl, rfl⟩ := trodVars_none hV
  obtain ⟨a0, len0, cap0, rfl⟩ := okWide_slice Yba.underlying30 (hval 0 30 v0 rfl rfl)
  have k0 := h0
  have lt0 : ∀ x ∈ p0, x.block < W.heap.size := by obtain ⟨m, hm⟩ := k0; exact DataW.trod_lt m _ _ _ hm
  obtain ⟨Z, w0, m0⟩ : ∃ Z, Picks W a0 len0 Z ∧ len0 ≤ maxLen := by
    obtain ⟨fuel, hf⟩ := h0
    rcases open_ints Yba.underlying30 Yba.underlying5 (by kernel_rfl) hf with ⟨hcs, _⟩ | ⟨x, l, c, zs, hcs, hb, hl, hm, hz, _, hcell, hwz⟩
    · simp [Value.cells] at hcs
      obtain ⟨rfl, rfl, rfl⟩ := hcs
      exact ⟨fun _ => 0, fun i hi => absurd hi (by omega), by unfold maxLen; omega⟩
    · simp [Value.cells] at hcs
      obtain ⟨rfl, rfl, rfl⟩ := hcs
      refine ⟨fun i => zs.getD i 0, fun i hi => ?_, by omega⟩
      have hz' : zs.length = cap0 := by simpa using hz
      obtain ⟨b, off, spot⟩ := x
      have hc := hcell i (by omega)
      have hspot : spot = none := by simpa [Addr.add] using World.cell?_spot (hcell 0 (by omega))
      subst hspot
      have hlt : b < W.heap.size := by
        have := hcell i (by omega)
        rw [add_plain] at this
        exact World.block_lt_of_cell? _ _ this
      rw [add_plain] at hc
      have hw := bounds_u8 (hwz (zs.getD i 0) (by rw [List.getD_eq_getElem?_getD, List.getElem?_eq_getElem (by omega)]; simp))
      exact ⟨b, off, rfl, hlt, hc, hw.1, by show zs.getD i 0 < 256; omega⟩
  obtain ⟨a1, len1, cap1, rfl⟩ := okWide_slice Yba.underlying62 (hval 1 62 v1 rfl rfl)
  have k1 := h1
  have lt1 : ∀ x ∈ p1, x.block < W.heap.size := by obtain ⟨m, hm⟩ := k1; exact DataW.trod_lt m _ _ _ hm
  obtain ⟨B, w1, m1⟩ : ∃ B, Caps W a1 len1 B ∧ len1 ≤ maxLen := by
    obtain ⟨fuel, hf⟩ := h1
    rcases Go.Deep.open_bools Yba.underlying62 Yba.underlying4 (by kernel_rfl) hf with ⟨hcs, _⟩ | ⟨x, l, c, B, hcs, hb, hl, hm, _, hcell⟩
    · simp [Value.cells] at hcs
      obtain ⟨rfl, rfl, rfl⟩ := hcs
      exact ⟨fun _ => false, fun i hi => absurd hi (by omega), by unfold maxLen; omega⟩
    · simp [Value.cells] at hcs
      obtain ⟨rfl, rfl, rfl⟩ := hcs
      refine ⟨B, fun i hi => ?_, by omega⟩
      obtain ⟨b, off, spot⟩ := x
      have hc := hcell i (by omega)
      have hspot : spot = none := by simpa [Addr.add] using World.cell?_spot (hcell 0 (by omega))
      subst hspot
      rw [add_plain] at hc
      exact ⟨b, off, rfl, World.block_lt_of_cell? _ _ hc, hc⟩
  clear hA0 hval0
  refine (walk a0 len0 cap0 Z a1 len1 cap1 B W w0 w1 m1 m0).mono fun e W' ⟨he, bel⟩ => ?_
  subst he
  exact ⟨_, rfl, _, _, _, [], _, [], hW', trodAll_mk1 (shut_bool Yba.underlying4 _), (trodAll_cons_mk (Below.trod laidOut (by kernel_rfl) (of_decide_eq_true (by kernel_rfl)) k0 bel lt0) (trodAll_cons_mk (Below.trod laidOut (by kernel_rfl) (of_decide_eq_true (by kernel_rfl)) k1 bel lt1) trodAll_mk0)), rfl, bel.frame _, fun h => by cases h⟩

theorem over : Rows.lawS2503CCaseBlindRow.holds Yba.pinned (OpenSpec.ofChange Rows.lawS2503CCaseBlindSpec) :=
  OpenClaim.holds_of_wide 7 Yba.f7 rfl rfl rfl rfl rfl rfl rfl ⟨rfl, rfl, rfl, rfl, rfl⟩ rfl rfl rfl rfl rfl (by kernel_rfl) Yba.func7 (by kernel_rfl)
    (of_decide_eq_true (by kernel_rfl)) (by unfold Func.isWrapper; first | (rw [if_pos (by decide +kernel)]; kernel_rfl) | (rw [if_neg (by decide +kernel)]; exact ⟨rfl, rfl⟩))
    (fun os started H enc _ => lifted os started H enc)

/-- THE STATEMENT -/
theorem proved : Rows.LawS2503CCaseBlindSaid := over
#print axioms proved
end Go.Proofs.Ybulkayuu.lawS2503CCaseBlind
