/-
  plan.LawS2503BCounts (function 3): THE WALK.
-/
import Derived.Test.YbulkayuuCntPrep
import Derived.Test.YbulkayuuCntRegion
import Derived.OpenShut
import Derived.ShutString
import Derived.ChangeOld
import Derived.WalkSpells
import Derived.Deep.RegionWith
import Derived.BigRegion
import Derived.Laws.IdiomStrings
namespace Go.Proofs.Ybulkayuu.lawS2503BCounts
open Go.ChangeShapes Go.WideShapes Go.ChangeAt Go.RowKit Go.Maps Go.Proofs.Ybulkayuu.Rep Go.Proofs.Ybulkayuu.Sum Go.Proofs.Ybulkayuu.Cnt
set_option linter.unusedVariables false

/-- One context's extensions, as the walk is told of them. -/
def Exts (w : World) (a : Option Addr) (n : Nat) (k m p : Nat → Int) : Prop :=
  ∀ j, j < n → ∃ b off, a = some ⟨b, off, none⟩ ∧ b < w.heap.size ∧ w.cell? ⟨b, off + j * 3, none⟩ = some (.int .u8 (k j)) ∧ w.cell? ⟨b, off + j * 3 + 1, none⟩ = some (.int .u8 (m j)) ∧
    w.cell? ⟨b, off + j * 3 + 2, none⟩ = some (.int .u8 (p j)) ∧ (0 ≤ k j ∧ k j < 256) ∧ (0 ≤ m j ∧ m j < 256) ∧ 0 ≤ p j ∧ p j < 256
/-- All of them. -/
def Ctxs (w : World) (a : Option Addr) (n : Nat) (A : Nat → Option Addr) (L C : Nat → Nat) (K M P : Nat → Nat → Int) : Prop :=
  ∀ i, i < n → ∃ b off, a = some ⟨b, off, none⟩ ∧ b < w.heap.size ∧ w.cell? ⟨b, off + i, none⟩ = some (.slice (A i) (L i) (C i)) ∧ L i ≤ maxLen ∧ Exts w (A i) (L i) (K i) (M i) (P i)

theorem conv_name (v : World) (i : Nat) (hi : i < 256) : (convert 30 9 (.slice (some ⟨v.heap.size, 0, none⟩) 3 3)).run Yba.prog (v.alloc (.cells #[.int .u8 99, .int .u8 (i : Int), .int .u8 ((i : Int) / 256)] 5)) =
    .ok (.string (cname i)) (v.alloc (.cells #[.int .u8 99, .int .u8 (i : Int), .int .u8 ((i : Int) / 256)] 5)) := by
  have := run_convert_bytes_back (P := Yba.prog) (v.alloc (.cells #[.int .u8 99, .int .u8 (i : Int), .int .u8 ((i : Int) / 256)] 5)) 30 9 5 ⟨v.heap.size, 0, none⟩ 3 [99, UInt8.ofNat i, 0] Yba.underlying30 Yba.underlying5 Yba.underlying9 (fun j hj => by
    rw [add_plain, Nat.zero_add, World.cell?_alloc_mark]
    match j, hj with
    | 0, _ => rfl
    | 1, _ =>
      show some (Value.int .u8 (i : Int)) = some (.int .u8 (((UInt8.ofNat i).toNat : Nat) : Int))
      rw [UInt8.toNat_ofNat', Nat.mod_eq_of_lt (by omega)]
    | 2, _ =>
      show some (Value.int .u8 ((i : Int) / 256)) = some (.int .u8 0)
      rw [show (i : Int) / 256 = 0 from by omega])
  exact this

theorem info95 : (Yba.prog.info? 95).map (fun i => (i.zero.isSome, i.size, i.bytes)) = some (true, 4, 56) := by kernel_rfl
/-- The block that 'make([]Priority, z)' lays. -/
theorem mk_prio (z : Int) (h0 : 0 ≤ z) (h1 : z ≤ 7) : ∃ o : Int → Obj, ∀ w : World,
    (Instr.makeSlice 42 (.int .i64 z) (.int .i64 z)).run Yba.prog w = .ok (.slice (some ⟨w.heap.size, 0, none⟩) z.toNat z.toNat) (w.alloc (o z)) := by
  have hi := info95
  cases hinfo : Yba.prog.info? 95 with
  | none => rw [hinfo] at hi; cases hi
  | some i =>
    rw [hinfo] at hi
    simp only [Option.map_some, Option.some.injEq, Prod.mk.injEq] at hi
    obtain ⟨hz, hs, hby⟩ := hi
    cases hzero : i.zero with
    | none => rw [hzero] at hz; cases hz
    | some zv => exact ⟨fun z => .cells (madeCells zv.cells (z.toNat * i.size)) 95, fun w => run_make (P := Yba.prog) w 42 95 i zv Yba.underlying42 hinfo hzero .i64 .i64 z z h0 (Int.le_refl _) (by rw [hby]; omega) (by omega)⟩

/-- The block of a new extension. -/
def extO (nm : ByteArray) (b : Nat) (z : Int) : Obj :=
  .cells #[.string nm, .bool false, .string ⟨#[]⟩, .slice (some ⟨b, 0, none⟩) z.toNat z.toNat, .int .i32 0, .int .u32 0, .bool false, .map none, .pointer none] 52

theorem kept_hit {k : Nat → Int} {j t : Nat} (h : keptU k (j + 1) t = (keptU k j t && !(k j % 8 == k t % 8))) (h1 : (k j % 8 == k t % 8) = true) : Value.bool false = Value.bool (keptU k (j + 1) t) := by
  rw [h, h1]; simp
theorem kept_miss {k : Nat → Int} {j t : Nat} (h : keptU k (j + 1) t = (keptU k j t && !(k j % 8 == k t % 8))) (h1 : (k j % 8 == k t % 8) = false) : Value.bool (keptU k j t) = Value.bool (keptU k (j + 1) t) := by
  rw [h, h1]; simp

theorem first_no {k m : Nat → Int} {n i t : Nat} (h : firstU k m n i (t + 1) = (firstU k m n i t && !((m t % 4 == m i % 4) && keptU k n t))) (h1 : (m t % 4 == m i % 4) = false) : Value.bool (firstU k m n i t) = Value.bool (firstU k m n i (t + 1)) := by
  rw [h, h1]; simp
theorem first_drop {k m : Nat → Int} {n i t : Nat} (h : firstU k m n i (t + 1) = (firstU k m n i t && !((m t % 4 == m i % 4) && keptU k n t))) (h1 : keptU k n t = false) : Value.bool (firstU k m n i t) = Value.bool (firstU k m n i (t + 1)) := by
  rw [h, h1]; simp
theorem first_hit {k m : Nat → Int} {n i t : Nat} (h : firstU k m n i (t + 1) = (firstU k m n i t && !((m t % 4 == m i % 4) && keptU k n t))) (h1 : (m t % 4 == m i % 4) = true) (h2 : keptU k n t = true) : Value.bool false = Value.bool (firstU k m n i (t + 1)) := by
  rw [h, h1, h2]; simp

set_option maxRecDepth 1000000 in
set_option maxHeartbeats 6400000 in
theorem walk (a0 : Option Addr) (n c : Nat) (A : Nat → Option Addr) (L C : Nat → Nat) (K M P : Nat → Nat → Int) (w : World) (h0 : Ctxs w a0 n A L C K M P) (hm0 : n ≤ maxLen) :
    Calls Yba.prog 3 #[.slice a0 n c] w fun e w' => e = .returned (.bool true) ∧ Below w.heap.size w w' := by
  unfold maxLen at hm0
  by_cases hbig : (256 : Int) < (n : Int)
  · go_enter Yba.func3, Yba.ntmps3
    go_wp2
    go_ret
    exact ⟨rfl, Below.refl _ _⟩
  go_enter Yba.func3, Yba.ntmps3
  go_wp2_with fail
  go_loop [27] (fun i => ∃ q : Nat, q ≤ n ∧ i = .int .i64 q ∧ ∀ j, j < q → L j ≤ 256) (fun i => n - (intOf i).toNat)
  case atStart => exact ⟨0, Nat.zero_le _, rfl, fun j hj => absurd hj (by omega)⟩
  case round =>
    obtain ⟨q, hq, rfl, hL⟩ := hrel
    by_cases hlt : q < n
    · obtain ⟨b, off, rfl, hb, hc, hLm, _⟩ := h0 q hlt
      unfold maxLen at hLm
      obtain ⟨l, hl⟩ : ∃ l, l = L q := ⟨_, rfl⟩
      rw [← hl] at hc hLm
      have HL : Hid (l = L q) := hl
      have HLL : Hid (∀ j, j < q → L j ≤ 256) := hL
      clear hl hL
      by_cases h256 : (256 : Int) < (l : Int)
      · go_wp2
        go_ret
        exact ⟨rfl, Below.refl _ _⟩
      · go_wp2
        go_round
        case rel =>
          refine ⟨q + 1, by omega, by go_num, fun j hj => ?_⟩
          by_cases e : j = q
          · rw [e, ← HL.out]; omega
          · exact HLL.out j (by omega)
        case measure => simp [intOf]; omega
    · obtain rfl : q = n := by omega
      by_cases hz : q = 0
      · subst hz
        have hsum := summary_nil w.heap.size (w.alloc (.cells #[.map none, .map none, .int .i64 0] 28)) (by rw [World.cell?_alloc_mark]; rfl)
        have HSUM : Hid (Calls Yba.prog 10 #[.pointer (some ⟨w.heap.size, 0, none⟩)] (w.alloc (.cells #[.map none, .map none, .int .i64 0] 28)) fun e w' => e = .returned (.agg #[.int .i64 0, .int .i64 0, .int .i64 0]) ∧ Below (w.alloc (.cells #[.map none, .map none, .int .i64 0] 28)).heap.size (w.alloc (.cells #[.map none, .map none, .int .i64 0] 28)) w') := hsum
        clear hsum h0 hL
        go_wp2_with fail
        refine wp_loop_rounds 1 ?_
        rw [rounds_succ]
        go_wp2_with fail
        refine HSUM.out.mono ?_
        rintro e w1 ⟨rfl, hb1⟩
        go_wp2
        go_ret
        refine ⟨rfl, (((Below.refl _ _).alloc (Nat.le_refl _) _).trans (hb1.mono (by simp))).alloc ?_ _⟩
        have := hb1.size
        simp at this
        omega
      have hpos : (0 : Int) < (q : Int) := by omega
      have hpos2 : 0 < q := by omega
      have hmm := @run_makeMap Yba.prog
      have HLL : Hid (∀ j, j < q → L j ≤ 256) := hL
      have HCX : Hid (Ctxs w a0 q A L C K M P) := h0
      have hbig0 := big_start w
      clear hL h0
      go_wp2_with fail
      clear hmm
      go_loopw [6, 7, 46] (fun x6 x7 ci wr => ∃ (i : Nat) (LC : Ents) (N : Nat → ByteArray) (Q : Nat → Nat) (E : Nat → Ents) (D : DataW Unit), i ≤ q ∧ ci = .int .i64 i ∧ x6 = .int .i64 (WE K M L i : Nat) ∧ x7 = .int .i64 (WP K P L i : Nat) ∧ Big w wr i LC N Q E D (WE K M L i) (WP K P L i))
        (fun _ _ ci _ => q - (intOf ci).toNat)
      case atStart => exact ⟨0, [], _, _, _, _, Nat.zero_le _, rfl, rfl, rfl, hbig0⟩
      case round =>
        obtain ⟨i, LC, N0, Q0, E, D, hi, rfl, rfl, rfl, hB⟩ := hrel
        obtain ⟨v, rfl⟩ : ∃ v : World, v = wr := ⟨_, rfl⟩
        by_cases hlt2 : i < q
        · obtain ⟨b, off, rfl, hb, hc, hLm, hX⟩ := HCX.out i hlt2
          rw [← hB.be.cell (p := ⟨b, off + i, none⟩) hb] at hc
          have hl256 := HLL.out i hlt2
          have hWE := WE_le (K := K) (M := M) i (fun j hj => HLL.out j (by omega))
          have hWP := WP_le (K := K) (P := P) i (fun j hj => HLL.out j (by omega))
          obtain ⟨l, hl⟩ : ∃ l, l = L i := ⟨_, rfl⟩
          obtain ⟨al, hal⟩ : ∃ al, al = A i := ⟨_, rfl⟩
          obtain ⟨cl, hcl⟩ : ∃ cl, cl = C i := ⟨_, rfl⟩
          obtain ⟨k, hk⟩ : ∃ k, k = K i := ⟨_, rfl⟩
          obtain ⟨m, hm⟩ : ∃ m, m = M i := ⟨_, rfl⟩
          obtain ⟨p, hp⟩ : ∃ p, p = P i := ⟨_, rfl⟩
          obtain ⟨we, hwe⟩ : ∃ we, we = WE K M L i := ⟨_, rfl⟩
          obtain ⟨wp, hwp⟩ : ∃ wp, wp = WP K P L i := ⟨_, rfl⟩
          rw [← hl, ← hal, ← hcl] at hc
          rw [← hl] at hl256 hLm
          rw [← hl, ← hal, ← hk, ← hm, ← hp] at hX
          rw [← hwe] at hWE
          rw [← hwp] at hWP
          rw [← hwe, ← hwp] at hB ⊢
          have HE : Hid (WE K M L (i + 1) = we + nd (KN k m l l)) := show WE K M L i + nd (KN (K i) (M i) (L i) (L i)) = _ from by rw [hwe, hk, hm, hl]
          have HP : Hid (WP K P L (i + 1) = wp + KP k p l l) := show WP K P L i + KP (K i) (P i) (L i) (L i) = _ from by rw [hwp, hk, hp, hl]
          have HX : Hid (Exts w al l k m p) := hX
          clear hl hal hcl hk hm hp hwe hwp hX hLm
          have hmm := @run_makeMap Yba.prog
          have hcn := conv_name v i (by omega)
          have hM0 := mid_start v k m p (cname i) N0 Q0 (.cells #[.int .u8 99, .int .u8 (i : Int), .int .u8 ((i : Int) / 256)] 5) hB.hq
          have HM0 : Hid (Mid v (((v.alloc (.cells #[.int .u8 99, .int .u8 (i : Int), .int .u8 ((i : Int) / 256)] 5)).alloc (.map #[] 0)).alloc (.cells #[.string (cname i), .slice none 0 0, .slice none 0 0, .slice none 0 0, .map (some (v.heap.size + 1)), .map none] 37)) k m p (cname i) N0 Q0 0 [] N0 Q0 (.map [])) := hM0
          have HBB : Hid (Big w v i LC N0 Q0 E D we wp) := hB
          clear hM0 hB hbig0
          go_wp2_with fail
          clear hcn hmm
          go_loopw [64] (fun j u => ∃ (t : Nat) (LE : Ents) (N : Nat → ByteArray) (Q : Nat → Nat) (De : DataW Unit), t ≤ l ∧ j = .int .i64 t ∧ Mid v u k m p (cname i) N0 Q0 t LE N Q De ∧ v.heap.size + 2 < u.heap.size) (fun j _ => l - (intOf j).toNat)
          case atStart => exact ⟨0, [], N0, Q0, _, Nat.zero_le _, rfl, HM0.out, by simp⟩
          case round =>
            obtain ⟨t, LE, N, Q, De, htl, rfl, hMid, hsz⟩ := hrel
            obtain ⟨u, rfl⟩ : ∃ u : World, u = wr := ⟨_, rfl⟩
            by_cases hlt3 : t < l
            · obtain ⟨b', off', rfl, hb', x0, x1, x2, hkb, hmb, hpb⟩ := HX.out t hlt3
              have hcx : ∀ o, u.cell? ⟨b', o, none⟩ = w.cell? ⟨b', o, none⟩ := fun o => (hMid.be.cell (p := ⟨b', o, none⟩) (by have := HBB.out.be.size; simp only; omega)).trans (HBB.out.be.cell (p := ⟨b', o, none⟩) hb')
              rw [← hcx] at x0 x1 x2
              obtain ⟨kx, hkx⟩ : ∃ kx, kx = k t := ⟨_, rfl⟩
              obtain ⟨mx, hmx⟩ : ∃ mx, mx = m t := ⟨_, rfl⟩
              obtain ⟨px, hpx⟩ : ∃ px, px = p t := ⟨_, rfl⟩
              rw [← hkx] at x0 hkb
              rw [← hmx] at x1 hmb
              rw [← hpx] at x2 hpb
              have HKX : Hid (kx = k t) := hkx
              have HMX : Hid (mx = m t) := hmx
              have HPX : Hid (px = p t) := hpx
              have hbu : b' < u.heap.size := by have := HBB.out.be.size; have := hMid.be.size; omega
              have hcc : u.cell? ⟨v.heap.size + 1 + 1, 4, none⟩ = some (.map (some (v.heap.size + 1))) := by simp [World.cell?, hMid.c]
              obtain ⟨hk0, hk1⟩ := hkb
              obtain ⟨hm0', hm1⟩ := hmb
              obtain ⟨hp0, hp1⟩ := hpb
              clear hcx hkx hmx hpx
              obtain ⟨o, hmk0⟩ := mk_prio (px % 8) (by omega) (by omega)
              obtain ⟨zn, hzn⟩ : ∃ zn, zn = (px % 8).toNat := ⟨_, rfl⟩
              have ez : IntKind.i64.wrap (px.tmod 8) = px % 8 := by rw [IntKind.wrap_i64, Int.tmod_eq_emod_of_nonneg hp0]; omega
              have hmk : ∃ S : Obj, ∀ wx : World, (Instr.makeSlice 42 (.int .i64 (IntKind.i64.wrap (px.tmod 8))) (.int .i64 (IntKind.i64.wrap (px.tmod 8)))).run Yba.prog wx = .ok (.slice (some ⟨wx.heap.size, 0, none⟩) zn zn) (wx.alloc S) :=
                ⟨o (px % 8), fun wx => by rw [ez, hzn]; exact hmk0 wx⟩
              obtain ⟨S, hmk⟩ := hmk
              have HZN : Hid (zn = (px % 8).toNat) := hzn
              have hbs : v.heap.size + 1 + 1 < u.heap.size := by omega
              have HMid : Hid (Mid v u k m p (cname i) N0 Q0 t LE N Q De) := hMid
              clear hMid hmk0 ez hzn
              go_wp2_with fail
              obtain ⟨W', hrun, ⟨d0, d1, d2, d3⟩, LE', N', Q', De', hMid', hsz'⟩ := prep21 HMid.out hsz (by omega) HKX.out HMX.out HPX.out HZN.out S _ rfl
              refine region21 _ _ _ _ _ _ _ _ _ _ _ _ _ _ _ _ _ _ _ _ _ _ _ _ _ _ _ _ _ _ _ _ _ _ _ _ _ _ _ _ _ _ _ _ _ _ _ _ _ _ _ _ _ _ _ _ _ _ _ _ _ _ _ _ _ _ _ _ _ _ _ _ _ _ _ _ _ _ _ _ _ _ _ _ _ _ _ _ _ _ _ _ _ _ _ _ _ _ _ _ _ _ _ _ _ _ _ _ _ _ _ _ _ _ _ _ _ _ _ _ _ _ _ _ _ _ _ _ _ _ _ _ _ _ _ _ _ _ _ _ _ _ _ _ _ _ _ _ _ _ _ _ _ _ _ _ _ _ _ _ _ _ _ _ _ _ _ _ _ _ _ _ _ _ _ _ _ _ _ _ _ _ _ _ _ _ _ _ _ _ _ _ _ _ W' S (v.heap.size + 1 + 1) u.heap.size (v.heap.size + 1) zn kx mx px hk0 hk1 hm0' hm1 ?r1 ?r2 ?r3 ?r4 hmk hrun d0 d1 d2 d3 ?_
              case r1 => rw [World.cell?_alloc_lt _ _ _ (by simp only; omega)]; exact hcc
              case r2 => rw [World.cell?_alloc_mark]; rfl
              case r3 => rw [World.cell?_alloc_mark]; rfl
              case r4 => rw [World.cell?_alloc_mark]; rfl
              intro y68 y69 y70 y71 y72 y73 y74 y75 y76 y77 y78 y79 y80 y81 y82 y83 y84
              clear hrun d0 d1 d2 d3 hmk hcc x0 x1 x2 HMid
              go_wp2
              go_roundw
              case rel => exact ⟨t + 1, LE', N', Q', De', by omega, by go_num, hMid', hsz'⟩
              case measure => simp [intOf]; omega
            · obtain rfl : l = t := by omega
              have hsw := HBB.out.own.lt
              have hd : u.cell? ⟨w.heap.size, 0, none⟩ = some (.map (some (w.heap.size + 1))) := by
                rw [hMid.be.cell (p := ⟨w.heap.size, 0, none⟩) (by simp only; omega)]
                exact (blk3 HBB.out.d).1.1
              have hownD := owns_below HBB.out.own hMid.be hsw
              have hkey := WideMaps.keyOf_string_mk (P := Yba.prog) (k := 9) Yba.underlying9 (s := cname i) (by rw [cname_size]; unfold maxLen; omega)
              have hmx : i < maxLen := by unfold maxLen; omega
              have HMid : Hid (Mid v u k m p (cname i) N0 Q0 l LE N Q De) := hMid
              clear hMid HM0
              go_wp2_with (first
                | (at_mapUpdate; refine wpList_mapUpdate_own _ rfl _ _ _ 25 rfl 9 31 law9 Yba.underlying25 _ (w.heap.size + 1) i D rfl hownD hmx _ _ _ rfl rfl hkey _ [] (ptrElem_mk (v.heap.size + 1 + 1)) ?_; intro u1 hown1 hg1))
              have hB1 := big_step HBB.out HMid.out (by omega) hl256 hsz (by omega) hown1 hg1
              obtain ⟨LC1, hLC1⟩ : ∃ LC1, LC1 = putE LC (cname i).data.toList (v.heap.size + 2) := ⟨_, rfl⟩
              obtain ⟨E1, hE1⟩ : ∃ E1, E1 = upd E (v.heap.size + 2) LE := ⟨_, rfl⟩
              obtain ⟨D1, hD1⟩ : ∃ D1, D1 = D.put (.string (cname i).data.toList) (.lit (.int .i64 ((v.heap.size + 2 : Nat) : Int))) := ⟨_, rfl⟩
              obtain ⟨we1, hwe1⟩ : ∃ we1, we1 = we + nd (KN k m l l) := ⟨_, rfl⟩
              obtain ⟨wp1, hwp1⟩ : ∃ wp1, wp1 = wp + KP k p l l := ⟨_, rfl⟩
              rw [← hLC1, ← hE1, ← hD1, ← hwe1, ← hwp1] at hB1
              have HWE1 : Hid (we1 = we + nd (KN k m l l)) := hwe1
              have HWP1 : Hid (wp1 = wp + KP k p l l) := hwp1
              clear hLC1 hE1 hD1 hwe1 hwp1 hown1 hg1 hd hownD hkey hmx HMid HBB
              have hcells : ∀ wx, Below w.heap.size w wx → ∀ j, j < l → ∃ b' off', al = some ⟨b', off', none⟩ ∧ wx.cell? ⟨b', off' + j * 3, none⟩ = some (.int .u8 (k j)) ∧ wx.cell? ⟨b', off' + j * 3 + 1, none⟩ = some (.int .u8 (m j)) ∧ wx.cell? ⟨b', off' + j * 3 + 2, none⟩ = some (.int .u8 (p j)) ∧ (0 ≤ k j ∧ k j < 256) ∧ (0 ≤ m j ∧ m j < 256) ∧ 0 ≤ p j ∧ p j < 256 := fun wx hbe j hj => by
                obtain ⟨b', off', e0, hb', x0, x1, x2, r⟩ := HX.out j hj
                exact ⟨b', off', e0, by rw [hbe.cell (by exact hb')]; exact x0, by rw [hbe.cell (by exact hb')]; exact x1, by rw [hbe.cell (by exact hb')]; exact x2, r⟩
              have HCELLS : Hid (∀ wx, Below w.heap.size w wx → ∀ j, j < l → ∃ b' off', al = some ⟨b', off', none⟩ ∧ wx.cell? ⟨b', off' + j * 3, none⟩ = some (.int .u8 (k j)) ∧ wx.cell? ⟨b', off' + j * 3 + 1, none⟩ = some (.int .u8 (m j)) ∧ wx.cell? ⟨b', off' + j * 3 + 2, none⟩ = some (.int .u8 (p j)) ∧ (0 ≤ k j ∧ k j < 256) ∧ (0 ≤ m j ∧ m j < 256) ∧ 0 ≤ p j ∧ p j < 256) := hcells
              clear hcells HX
              go_wp2_with fail
              go_loopw [6, 7, 14] (fun x6 x7 x14 wx => ∃ t : Nat, t ≤ l ∧ x14 = .int .i64 t ∧ x6 = .int .i64 ((we + nd (KN k m l t) : Nat) : Int) ∧ x7 = .int .i64 ((wp + KP k p l t : Nat) : Int) ∧ Big w wx (i + 1) LC1 N Q E1 D1 we1 wp1) (fun _ _ x14 _ => l - (intOf x14).toNat)
              case atStart => exact ⟨0, Nat.zero_le _, rfl, rfl, rfl, hB1⟩
              case round =>
                obtain ⟨t, htl, rfl, rfl, rfl, hBt⟩ := hrel
                by_cases hlt4 : t < l
                · obtain ⟨b', off', rfl, x0, x1, x2, hkb, hmb, hpb⟩ := HCELLS.out wr hBt.be t hlt4
                  have hlt4' : (t : Int) < (l : Int) := by omega
                  have hnd := nd_le (KN k m l t)
                  have hkn := KN_len k m l t
                  have hkp := KP_le k p l t
                  obtain ⟨we2, hwe2⟩ : ∃ we2 : Nat, we2 = we + nd (KN k m l t) := ⟨_, rfl⟩
                  obtain ⟨wp2, hwp2⟩ : ∃ wp2 : Nat, wp2 = wp + KP k p l t := ⟨_, rfl⟩
                  have hwb : we2 ≤ 100000 := by omega
                  have hpb2 : wp2 ≤ 1000000 := by omega
                  rw [← hwe2, ← hwp2]
                  have HW2 : Hid (we2 = we + nd (KN k m l t)) := hwe2
                  have HP2 : Hid (wp2 = wp + KP k p l t) := hwp2
                  clear hwe2 hwp2 hnd hkn hkp x0 x1 x2
                  obtain ⟨hk0, hk1⟩ := hkb
                  obtain ⟨hm0', hm1⟩ := hmb
                  obtain ⟨hp0, hp1⟩ := hpb
                  go_wp2_with fail
                  go_loopw [15, 16] (fun x15 x16 wx => ∃ j : Nat, t < j ∧ j ≤ l ∧ x16 = .int .i64 j ∧ x15 = .bool (keptU k j t) ∧ Big w wx (i + 1) LC1 N Q E1 D1 we1 wp1) (fun _ x16 _ => l - (intOf x16).toNat)
                  case atStart => exact ⟨t + 1, by omega, by omega, by go_num, by rw [keptU_start], hBt⟩
                  case round =>
                    obtain ⟨j, htj, hjl, rfl, rfl, hBj⟩ := hrel
                    by_cases hlt5 : j < l
                    · obtain ⟨b2, off2, e2, y0, y1, y2, hjb, _, _⟩ := HCELLS.out wr hBj.be j hlt5
                      cases e2
                      obtain ⟨b3, off3, e3, x0, x1, x2, _⟩ := HCELLS.out wr hBj.be t hlt4
                      cases e3
                      obtain ⟨hj0, hj1⟩ := hjb
                      have hlt5' : (j : Int) < (l : Int) := by omega
                      have hks := keptU_succ k j t
                      rw [decide_eq_true htj, Bool.true_and] at hks
                      have HKS : Hid (keptU k (j + 1) t = (keptU k j t && !(k j % 8 == k t % 8))) := hks
                      clear hks y1 y2 x1 x2
                      go_wp2
                      go_quiet (fail)
                      go_wp2
                      · go_roundw
                        case rel => exact ⟨j + 1, by omega, by omega, by go_num, kept_hit HKS.out (by assumption), hBj.drewN _⟩
                        case measure => simp [intOf]; omega
                      · go_roundw
                        case rel => exact ⟨j + 1, by omega, by omega, by go_num, kept_miss HKS.out (by assumption), hBj.drewN _⟩
                        case measure => simp [intOf]; omega
                    · obtain rfl : l = j := by omega
                      cases hkp : keptU k l t with
                      | false =>
                        have HN1 : Hid (KN k m l (t + 1) = KN k m l t) := KN_no hkp
                        have HP1 : Hid (KP k p l (t + 1) = KP k p l t) := KP_no hkp
                        clear hkp
                        go_wp2
                        go_roundw
                        case rel => exact ⟨t + 1, by omega, by go_num, by rw [HN1.out, HW2.out], by rw [HP1.out, HP2.out], hBj⟩
                        case measure => simp [intOf]; omega
                      | true =>
                        have HN1 : Hid (KN k m l (t + 1) = KN k m l t ++ [m t % 4]) := KN_yes hkp
                        have HP1 : Hid (KP k p l (t + 1) = KP k p l t + (p t % 8).toNat) := KP_yes hkp
                        obtain ⟨b3, off3, e3, x0, x1, x2, _⟩ := HCELLS.out wr hBj.be t hlt4
                        cases e3
                        clear hkp x0 x1
                        go_wp2_with fail
                        clear x2
                        go_loopw [17, 18] (fun x17 x18 wx => ∃ s : Nat, s ≤ t ∧ x18 = .int .i64 s ∧ x17 = .bool (firstU k m l t s) ∧ Big w wx (i + 1) LC1 N Q E1 D1 we1 wp1) (fun _ x18 _ => t - (intOf x18).toNat)
                        case atStart => exact ⟨0, Nat.zero_le _, rfl, rfl, hBj⟩
                        case round =>
                          obtain ⟨s, hst, rfl, rfl, hBs⟩ := hrel
                          by_cases hlt6 : s < t
                          · obtain ⟨b2, off2, e2, y0, y1, y2, _, hsb, _⟩ := HCELLS.out wr hBs.be s (by omega)
                            cases e2
                            obtain ⟨b3, off3, e3, x0, x1, x2, _⟩ := HCELLS.out wr hBs.be t hlt4
                            cases e3
                            obtain ⟨hs0, hs1⟩ := hsb
                            have hlt6' : (s : Int) < (l : Int) := by omega
                            have hlt6'' : (s : Int) < (t : Int) := by omega
                            have HFS : Hid (firstU k m l t (s + 1) = (firstU k m l t s && !((m s % 4 == m t % 4) && keptU k l s))) := firstU_succ k m l t s
                            cases hnm : (m s % 4 == m t % 4) with
                            | false =>
                              have hnm' : (m s % 4 != m t % 4) = true := by simpa using hnm
                              have HNM : Hid ((m s % 4 == m t % 4) = false) := hnm
                              clear hnm y0 y2 x0 x2
                              go_wp2
                              go_quiet (fail)
                              go_wp2
                              go_roundw
                              case rel => exact ⟨s + 1, by omega, by go_num, first_no HFS.out HNM.out, hBs.drewN _⟩
                              case measure => simp [intOf]; omega
                            | true =>
                              have hnm' : (m s % 4 != m t % 4) = false := by simpa using hnm
                              have HNM : Hid ((m s % 4 == m t % 4) = true) := hnm
                              clear hnm y0 y2 x0 x2
                              go_wp2
                              go_quiet (fail)
                              go_wp2_with fail
                              clear y1 x1 hnm'
                              go_loopw [19, 20] (fun x19 x20 wx => ∃ j : Nat, s < j ∧ j ≤ l ∧ x20 = .int .i64 j ∧ x19 = .bool (keptU k j s) ∧ Big w wx (i + 1) LC1 N Q E1 D1 we1 wp1) (fun _ x20 _ => l - (intOf x20).toNat)
                              case atStart => exact ⟨s + 1, by omega, by omega, by go_num, by rw [keptU_start], hBs.drewN _⟩
                              case round =>
                                obtain ⟨j, hsj, hjl, rfl, rfl, hBj2⟩ := hrel
                                by_cases hlt7 : j < l
                                · obtain ⟨b2, off2, e2, y0, y1, y2, hjb, _, _⟩ := HCELLS.out wr hBj2.be j hlt7
                                  cases e2
                                  obtain ⟨b3, off3, e3, x0, x1, x2, hsb2, _⟩ := HCELLS.out wr hBj2.be s (by omega)
                                  cases e3
                                  obtain ⟨hj0, hj1⟩ := hjb
                                  obtain ⟨hs2, hs3⟩ := hsb2
                                  have hlt7' : (j : Int) < (l : Int) := by omega
                                  have hks := keptU_succ k j s
                                  rw [decide_eq_true hsj, Bool.true_and] at hks
                                  have HKS : Hid (keptU k (j + 1) s = (keptU k j s && !(k j % 8 == k s % 8))) := hks
                                  clear hks y1 y2 x1 x2
                                  go_wp2
                                  go_quiet (fail)
                                  go_wp2
                                  · go_roundw
                                    case rel => exact ⟨j + 1, by omega, by omega, by go_num, kept_hit HKS.out (by assumption), hBj2.drewN _⟩
                                    case measure => simp [intOf]; omega
                                  · go_roundw
                                    case rel => exact ⟨j + 1, by omega, by omega, by go_num, kept_miss HKS.out (by assumption), hBj2.drewN _⟩
                                    case measure => simp [intOf]; omega
                                · obtain rfl : l = j := by omega
                                  cases hk2 : keptU k l s with
                                  | false =>
                                    have HK2 : Hid (keptU k l s = false) := hk2
                                    clear hk2
                                    go_wp2
                                    go_roundw
                                    case rel => exact ⟨s + 1, by omega, by go_num, first_drop HFS.out HK2.out, hBj2⟩
                                    case measure => simp [intOf]; omega
                                  | true =>
                                    have HK2 : Hid (keptU k l s = true) := hk2
                                    clear hk2
                                    go_wp2
                                    go_roundw
                                    case rel => exact ⟨s + 1, by omega, by go_num, first_hit HFS.out HNM.out HK2.out, hBj2⟩
                                    case measure => simp [intOf]; omega
                          · obtain rfl : t = s := by omega
                            have hfi := firstU_iff k m l t
                            have hz8 : ((wp2 : Nat) : Int) + p t % 8 = ((wp2 + (p t % 8).toNat : Nat) : Int) := by omega
                            have HZ8 : Hid (((wp2 : Nat) : Int) + p t % 8 = ((wp2 + (p t % 8).toNat : Nat) : Int)) := hz8
                            clear hz8
                            cases hfu : firstU k m l t t with
                            | true =>
                              have hno := hfi.1 hfu
                              have HNS : Hid (nd (KN k m l (t + 1)) = nd (KN k m l t) + 1) := show nd (KN k m l (t + 1)) = nd (KN k m l t) + 1 from by rw [HN1.out, nd_snoc, if_neg hno]
                              clear hfi hfu hno
                              go_wp2
                              go_roundw
                              case rel => exact ⟨t + 1, by omega, by go_num, by rw [HNS.out, HW2.out]; go_num, by rw [HZ8.out, HP1.out, HP2.out, Nat.add_assoc], hBs⟩
                              case measure => simp [intOf]; omega
                            | false =>
                              have hin : m t % 4 ∈ KN k m l t := by
                                apply Classical.byContradiction
                                intro hc
                                rw [hfi.2 hc] at hfu
                                cases hfu
                              have HNS : Hid (nd (KN k m l (t + 1)) = nd (KN k m l t)) := show nd (KN k m l (t + 1)) = nd (KN k m l t) from by rw [HN1.out, nd_snoc, if_pos hin]; rfl
                              clear hfi hfu hin
                              go_wp2
                              go_roundw
                              case rel => exact ⟨t + 1, by omega, by go_num, by rw [HNS.out, HW2.out], by rw [HZ8.out, HP1.out, HP2.out, Nat.add_assoc], hBs⟩
                              case measure => simp [intOf]; omega
                · obtain rfl : l = t := by omega
                  rw [← HWE1.out, ← HWP1.out]
                  go_wp2
                  go_roundw
                  case rel => exact ⟨i + 1, LC1, N, Q, E1, D1, by omega, by go_num, by rw [HE.out, HWE1.out], by rw [HP.out, HWP1.out], by rw [HE.out, HP.out, ← HWE1.out, ← HWP1.out]; exact hBt⟩
                  case measure => simp [intOf]; omega
        · obtain rfl : i = q := by omega
          have hsum := sum_at hB (by omega)
          obtain ⟨x, hx⟩ : ∃ x : Nat, x = WE K M L i := ⟨_, rfl⟩
          obtain ⟨y, hy⟩ : ∃ y : Nat, y = WP K P L i := ⟨_, rfl⟩
          rw [← hx, ← hy] at hsum ⊢
          have HSUM : Hid (Calls Yba.prog 10 #[.pointer (some ⟨w.heap.size, 0, none⟩)] v fun e w' => e = .returned (.agg #[.int .i64 (i : Nat), .int .i64 (x : Nat), .int .i64 (y : Nat)]) ∧ Below v.heap.size v w') := hsum
          clear hsum hx hy
          go_wp2_with fail
          refine HSUM.out.mono ?_
          rintro e w1 ⟨rfl, hb1⟩
          go_wp2
          go_ret
          exact ⟨rfl, (hB.be.trans (hb1.mono hB.be.size)).alloc (Nat.le_trans hB.be.size hb1.size) _⟩
end Go.Proofs.Ybulkayuu.lawS2503BCounts
