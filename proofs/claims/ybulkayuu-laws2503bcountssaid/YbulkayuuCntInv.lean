/-
  plan.LawS2503BCounts: what the loops keep, and each step's effect on it: no walk here.
-/
import Derived.Test.YbulkayuuSum
import Derived.Test.YbulkayuuCntCalls
namespace Go.Proofs.Ybulkayuu.Cnt
open Go.RowKit Go.Maps Go.WideShapes Go.Proofs.Ybulkayuu.Rep Go.Proofs.Ybulkayuu.Sum

/-- The name of context i. -/
def cname (i : Nat) : ByteArray := ⟨#[99, UInt8.ofNat i, 0]⟩
theorem cname_size (i : Nat) : (cname i).size = 3 := rfl
theorem cname_inj {i j : Nat} (hi : i < 256) (hj : j < 256) (h : (cname i).data.toList = (cname j).data.toList) : i = j := by
  have : UInt8.ofNat i = UInt8.ofNat j := by simpa [cname] using h
  have := congrArg UInt8.toNat this
  simp only [UInt8.toNat_ofNat'] at this
  omega

/-- What the law adds up over the first i contexts. -/
def WE (K M : Nat → Nat → Int) (L : Nat → Nat) : Nat → Nat
  | 0 => 0
  | i + 1 => WE K M L i + nd (KN (K i) (M i) (L i) (L i))
def WP (K P : Nat → Nat → Int) (L : Nat → Nat) : Nat → Nat
  | 0 => 0
  | i + 1 => WP K P L i + KP (K i) (P i) (L i) (L i)
theorem WE_le {K M : Nat → Nat → Int} {L : Nat → Nat} : ∀ i, (∀ j, j < i → L j ≤ 256) → WE K M L i ≤ 256 * i
  | 0, _ => Nat.le_refl _
  | i + 1, h => by
    have ih := WE_le (K := K) (M := M) i (fun j hj => h j (by omega))
    have h1 := nd_le (KN (K i) (M i) (L i) (L i))
    have h2 := KN_len (K i) (M i) (L i) (L i)
    have h3 := h i (by omega)
    rw [WE]
    omega
theorem WP_le {K P : Nat → Nat → Int} {L : Nat → Nat} : ∀ i, (∀ j, j < i → L j ≤ 256) → WP K P L i ≤ 1792 * i
  | 0, _ => Nat.le_refl _
  | i + 1, h => by
    have ih := WP_le (K := K) (P := P) i (fun j hj => h j (by omega))
    have h2 := KP_le (K i) (P i) (L i) (L i)
    have h3 := h i (by omega)
    rw [WP]
    omega

/-! ### A context in memory -/
theorem ext_of {v v' : World} {x : Nat} {nm : ByteArray} {pr : Nat} (h : ExtOk v x nm pr) (hc : ∀ o, v'.cell? ⟨x, o, none⟩ = v.cell? ⟨x, o, none⟩) : ExtOk v' x nm pr := by
  obtain ⟨h1, h2, a, c, h3⟩ := h
  exact ⟨h1, by rw [hc]; exact h2, a, c, by rw [hc]; exact h3⟩
theorem ext_lt {v : World} {x : Nat} {nm : ByteArray} {pr : Nat} (h : ExtOk v x nm pr) : x < v.heap.size := World.block_lt_of_cell? _ _ h.2.1

/-- Context c, its blocks behind 'lo'. -/
def CtxAt (v : World) (lo : Nat) (N : Nat → ByteArray) (Q : Nat → Nat) (c : Nat) (LE : Ents) : Prop :=
  lo < c ∧ ∃ be nE De, v.cell? ⟨c, 4, none⟩ = some (.map (some be)) ∧ lo < be ∧ v.ownsMap Yba.prog 9 ptrElem be nE De ∧ nE ≤ 1000 ∧ Rep De LE ∧ Apart LE ∧ ∀ p ∈ LE, lo < p.2 ∧ ExtOk v p.2 (N p.2) (Q p.2)

theorem CtxAt.lt {v : World} {lo : Nat} {N : Nat → ByteArray} {Q : Nat → Nat} {c : Nat} {LE : Ents} (h : CtxAt v lo N Q c LE) : c < v.heap.size := by
  obtain ⟨_, be, nE, De, h1, _⟩ := h
  exact World.block_lt_of_cell? _ _ h1

/-- It stays while blocks up to 'lo', or new ones, are written. -/
theorem CtxAt.kept {v v' : World} {lo : Nat} {N N' : Nat → ByteArray} {Q Q' : Nat → Nat} {c : Nat} {LE : Ents} (h : CtxAt v lo N Q c LE)
    (hb : ∀ k, lo < k → k < v.heap.size → v'.heap[k]? = v.heap[k]?) (hN : ∀ k, k < v.heap.size → N' k = N k ∧ Q' k = Q k) : CtxAt v' lo N' Q' c LE := by
  obtain ⟨h0, be, nE, De, h1, h2, h3, h4, h5, h6, h7⟩ := h
  have hc := World.block_lt_of_cell? _ _ h1
  have hbe := h3.lt
  refine ⟨h0, be, nE, De, (World.cell?_of_block (w := v) (hb c h0 hc)).trans h1, h2, ?_, h4, h5, h6, fun p hp => ?_⟩
  · obtain ⟨es, clock, e1, r⟩ := h3
    exact ⟨es, clock, (hb be h2 hbe).trans e1, r⟩
  · obtain ⟨g1, g2⟩ := h7 p hp
    have hlt := ext_lt g2
    obtain ⟨n1, n2⟩ := hN p.2 hlt
    rw [n1, n2]
    exact ⟨g1, ext_of g2 fun o => World.cell?_of_block (w := v) (a := ⟨p.2, o, none⟩) (hb p.2 g1 hlt)⟩

theorem CtxAt.ok {v : World} {lo : Nat} {N : Nat → ByteArray} {Q : Nat → Nat} {c : Nat} {LE : Ents} (h : CtxAt v lo N Q c LE) : CtxOk v N Q c LE := by
  obtain ⟨_, be, nE, De, h1, _, h3, h4, h5, h6, h7⟩ := h
  exact Or.inr ⟨be, nE, De, h1, h3, h4, h5, h6, fun p hp => (h7 p hp).2⟩

theorem CtxAt.exts_lt {v : World} {lo : Nat} {N : Nat → ByteArray} {Q : Nat → Nat} {c : Nat} {LE : Ents} (h : CtxAt v lo N Q c LE) : ∀ p ∈ LE, p.2 < v.heap.size := by
  obtain ⟨_, be, nE, De, _, _, _, _, _, _, h7⟩ := h
  exact fun p hp => ext_lt (h7 p hp).2

/-! ### The whole dialplan -/
structure Big (w v : World) (i : Nat) (LC : Ents) (N : Nat → ByteArray) (Q : Nat → Nat) (E : Nat → Ents) (D : DataW Unit) (we wp : Nat) : Prop where
  be : Below w.heap.size w v
  d : v.heap[w.heap.size]? = some (.cells #[.map (some (w.heap.size + 1)), .map none, .int .i64 0] 28 (0, 0))
  own : v.ownsMap Yba.prog 9 ptrElem (w.heap.size + 1) i D
  rep : Rep D LC
  ap : Apart LC
  keys : LC.map Prod.fst = (List.range i).map (fun x => (cname x).data.toList)
  ctx : ∀ p ∈ LC, CtxAt v (w.heap.size + 1) N Q p.2 (E p.2)
  we : sumBy (ndE N E) LC = we
  wp : sumBy (prE Q E) LC = wp
  hle : ∀ c, (E c).length ≤ 256
  hq : ∀ x, Q x ≤ 7

theorem Big.drewN {w v : World} {i : Nat} {LC : Ents} {N : Nat → ByteArray} {Q : Nat → Nat} {E : Nat → Ents} {D : DataW Unit} {we wp : Nat} (h : Big w v i LC N Q E D we wp) (q : Nat) : Big w (v.drewN q) i LC N Q E D we wp :=
  ⟨below_drewN h.be q, h.d, h.own, h.rep, h.ap, h.keys, h.ctx, h.we, h.wp, h.hle, h.hq⟩

theorem big_start (w : World) : Big w ((w.alloc (.cells #[.map (some (w.heap.size + 1)), .map none, .int .i64 0] 28)).alloc (.map #[] 0)) 0 [] (fun _ => ByteArray.empty) (fun _ => 0) (fun _ => []) (.map []) 0 0 := by
  refine ⟨((Below.refl _ _).alloc (Nat.le_refl _) _).alloc (by simp) _, ?_, ?_, rep_empty, List.Pairwise.nil, rfl, fun p hp => (by cases hp), rfl, rfl, fun _ => Nat.zero_le _, fun _ => Nat.zero_le _⟩
  · rw [Below.heap_alloc _ _ _ (by simp)]
    exact heap_alloc_new w _
  · have := World.ownsMap_made (w.alloc (.cells #[.map (some (w.heap.size + 1)), .map none, .int .i64 0] 28)) Yba.prog 9 ptrElem
    rw [show (w.alloc (.cells #[.map (some (w.heap.size + 1)), .map none, .int .i64 0] 28)).heap.size = w.heap.size + 1 from by simp] at this
    exact this

/-! ### One context being filled: v: the world when its round began; its map lies in block v.heap.size + 1, itself behind it -/
structure Mid (v u : World) (k m p : Nat → Int) (nm : ByteArray) (N0 : Nat → ByteArray) (Q0 : Nat → Nat) (t : Nat) (LE : Ents) (N : Nat → ByteArray) (Q : Nat → Nat) (De : DataW Unit) : Prop where
  be : Below v.heap.size v u
  c : u.heap[v.heap.size + 2]? = some (.cells #[.string nm, .slice none 0 0, .slice none 0 0, .slice none 0 0, .map (some (v.heap.size + 1)), .map none] 37 (0, 0))
  own : u.ownsMap Yba.prog 9 ptrElem (v.heap.size + 1) t De
  rep : Rep De LE
  ap : Apart LE
  kl : LE.map (fun q => ((q.1, N q.2, Q q.2) : Row)) = KL k m p t
  ext : ∀ q ∈ LE, v.heap.size + 2 < q.2 ∧ ExtOk u q.2 (N q.2) (Q q.2)
  hq : ∀ x, Q x ≤ 7
  old : ∀ x, x < v.heap.size → N x = N0 x ∧ Q x = Q0 x

theorem mid_start (v : World) (k m p : Nat → Int) (nm : ByteArray) (N0 : Nat → ByteArray) (Q0 : Nat → Nat) (o : Obj) (hq : ∀ x, Q0 x ≤ 7) :
    Mid v (((v.alloc o).alloc (.map #[] 0)).alloc (.cells #[.string nm, .slice none 0 0, .slice none 0 0, .slice none 0 0, .map (some (v.heap.size + 1)), .map none] 37)) k m p nm N0 Q0 0 [] N0 Q0 (.map []) := by
  refine ⟨(((Below.refl _ _).alloc (Nat.le_refl _) _).alloc (by simp) _).alloc (by simp; omega) _, ?_, ?_, rep_empty, List.Pairwise.nil, rfl, fun q hq' => (by cases hq'), hq, fun x _ => ⟨rfl, rfl⟩⟩
  · have := heap_alloc_new ((v.alloc o).alloc (.map #[] 0)) (.cells #[.string nm, .slice none 0 0, .slice none 0 0, .slice none 0 0, .map (some (v.heap.size + 1)), .map none] 37)
    rw [show ((v.alloc o).alloc (.map #[] 0)).heap.size = v.heap.size + 2 from by simp] at this
    exact this
  · have := (World.ownsMap_made (v.alloc o) Yba.prog 9 ptrElem).alloc (.cells #[.string nm, .slice none 0 0, .slice none 0 0, .slice none 0 0, .map (some (v.heap.size + 1)), .map none] 37)
    rw [show (v.alloc o).heap.size = v.heap.size + 1 from by simp] at this
    exact this

def upd {α : Type} (f : Nat → α) (b : Nat) (x : α) : Nat → α := fun y => if y = b then x else f y
theorem upd_same {α : Type} (f : Nat → α) (b : Nat) (x : α) : upd f b x b = x := by simp [upd]
theorem upd_other {α : Type} (f : Nat → α) {b y : Nat} (x : α) (h : y ≠ b) : upd f b x y = f y := by simp [upd, h]

/-- The extension's block has been laid at b, and stored under its key. -/
theorem mid_step {v u u2 u' : World} {k m p : Nat → Int} {nm : ByteArray} {N0 : Nat → ByteArray} {Q0 : Nat → Nat} {t : Nat} {LE : Ents} {N : Nat → ByteArray} {Q : Nat → Nat} {De : DataW Unit} {b : Nat}
    (h : Mid v u k m p nm N0 Q0 t LE N Q De) (hsz : v.heap.size + 2 < u.heap.size) (h2 : u.grownBy u2 none) (hb : u.heap.size ≤ b) (hx : ExtOk u2 b (nameB (m t)) (p t % 8).toNat)
    (hown : u'.ownsMap Yba.prog 9 ptrElem (v.heap.size + 1) (t + 1) (De.put (.string (keyB (k t)).data.toList) (.lit (.int .i64 (b : Int))))) (hg : u2.grownBy u' (some (v.heap.size + 1))) :
    Mid v u' k m p nm N0 Q0 (t + 1) (putE LE (keyB (k t)).data.toList b) (upd N b (nameB (m t))) (upd Q b (p t % 8).toNat) (De.put (.string (keyB (k t)).data.toList) (.lit (.int .i64 (b : Int)))) := by
  have hold : ∀ q ∈ LE, q.2 ≠ b := fun q hq => by have := ext_lt (h.ext q hq).2; omega
  refine ⟨?_, ?_, hown, rep_put h.rep _ _, apart_put h.ap _ _, ?_, ?_, ?_, ?_⟩
  · exact (h.be.grown h2 (by omega) (fun j e => by cases e)).grown hg (by have := h2.size; omega) (fun j e => by cases e; omega)
  · exact (hg.block _ (by have := h2.size; omega) (by simp)).trans ((h2.block _ hsz (by simp)).trans h.c)
  · rw [KL, ← h.kl, putE, putK, List.map_append, List.filter_map]
    congr 1
    · apply List.map_congr_left
      intro q hq
      have := hold q (List.mem_filter.1 hq).1
      rw [upd_other _ _ this, upd_other _ _ this]
    · simp [upd_same, row]
  · intro q hq
    unfold putE at hq
    rcases List.mem_append.1 hq with hq | hq
    · have hq' := (List.mem_filter.1 hq).1
      obtain ⟨g1, g2⟩ := h.ext q hq'
      have hne := hold q hq'
      have hlt := ext_lt g2
      rw [upd_other _ _ hne, upd_other _ _ hne]
      refine ⟨g1, ext_of g2 fun o => ?_⟩
      exact (World.cell?_of_block (w := u2) (a := ⟨q.2, o, none⟩) (hg.block _ (by have := h2.size; simp only; omega) (by simp; omega))).trans (World.cell?_of_block (w := u) (a := ⟨q.2, o, none⟩) (h2.block _ hlt (by simp)))
    · simp only [List.mem_singleton] at hq
      subst hq
      have hlt := ext_lt hx
      simp only [upd_same]
      refine ⟨by omega, ext_of hx fun o => World.cell?_of_block (w := u2) (a := ⟨b, o, none⟩) (hg.block _ hlt (by simp; omega))⟩
  · intro x
    unfold upd
    split
    · omega
    · exact h.hq x
  · intro x hxl
    have hne : x ≠ b := by omega
    rw [upd_other _ _ hne, upd_other _ _ hne]
    exact h.old x hxl

theorem KL_len (k m p : Nat → Int) (t : Nat) : (KL k m p t).length ≤ t := by
  rw [KL_eq, List.length_map]
  have := List.length_filter_le (keptU k t) (List.range t)
  rw [List.length_range] at this
  exact this
theorem sumBy_congr {f g : Nat → Nat} {L : Ents} (h : ∀ p ∈ L, f p.2 = g p.2) : sumBy f L = sumBy g L := by
  unfold sumBy
  rw [List.map_congr_left (fun p hp => h p hp)]
theorem sumBy_snoc (f : Nat → Nat) (L : Ents) (p : Key × Nat) : sumBy f (L ++ [p]) = sumBy f L + f p.2 := by simp [sumBy]

/-- The filled context has been stored under its name. -/
theorem big_step {w v u u' : World} {i t : Nat} {LC LE : Ents} {N0 N : Nat → ByteArray} {Q0 Q : Nat → Nat} {E : Nat → Ents} {D De : DataW Unit} {we wp : Nat} {k m p : Nat → Int}
    (h : Big w v i LC N0 Q0 E D we wp) (hM : Mid v u k m p (cname i) N0 Q0 t LE N Q De) (hi : i < 256) (ht : t ≤ 256) (hsz : v.heap.size + 2 < u.heap.size) (hvz : w.heap.size + 1 < v.heap.size)
    (hown : u'.ownsMap Yba.prog 9 ptrElem (w.heap.size + 1) (i + 1) (D.put (.string (cname i).data.toList) (.lit (.int .i64 ((v.heap.size + 2 : Nat) : Int))))) (hg : u.grownBy u' (some (w.heap.size + 1))) :
    Big w u' (i + 1) (putE LC (cname i).data.toList (v.heap.size + 2)) N Q (upd E (v.heap.size + 2) LE) (D.put (.string (cname i).data.toList) (.lit (.int .i64 ((v.heap.size + 2 : Nat) : Int)))) (we + nd (KN k m t t)) (wp + KP k p t t) := by
  have hno : ∀ q ∈ LC, q.1 ≠ (cname i).data.toList := fun q hq e => by
    have h1 : q.1 ∈ LC.map Prod.fst := List.mem_map_of_mem hq
    rw [h.keys] at h1
    obtain ⟨x, hx, ex⟩ := List.mem_map.1 h1
    have hxi := List.mem_range.1 hx
    have := cname_inj (by omega) hi (ex.trans e)
    omega
  have hput : putE LC (cname i).data.toList (v.heap.size + 2) = LC ++ [((cname i).data.toList, v.heap.size + 2)] := by
    unfold putE
    rw [List.filter_eq_self.2 (fun q hq => by simpa using hno q hq)]
  have hlc : ∀ q ∈ LC, q.2 < v.heap.size := fun q hq => (h.ctx q hq).lt
  have hLE : LE.length ≤ t := by
    have := KL_len k m p t
    rw [← hM.kl, List.length_map] at this
    exact this
  -- every block from w.heap.size + 2 on, old or of this round, is as it was
  have hblk : ∀ x, w.heap.size + 1 < x → x < v.heap.size → u'.heap[x]? = v.heap[x]? := fun x h1 h2 =>
    (hg.block x (by have := hM.be.size; omega) (fun e => by have := Option.some.inj e; omega)).trans (hM.be.block x h2)
  refine ⟨?_, ?_, hown, rep_put h.rep _ _, apart_put h.ap _ _, ?_, ?_, ?_, ?_, ?_, hM.hq⟩
  · exact (h.be.trans (hM.be.mono (by have := h.be.size; omega))).grown hg (by have := hM.be.size; have := h.be.size; omega) (fun j e => by cases e; omega)
  · exact (hg.block _ (by have := hM.be.size; omega) (by simp)).trans ((hM.be.block _ (by omega)).trans h.d)
  · rw [hput, List.map_append, h.keys, List.range_succ, List.map_append]
    rfl
  · intro q hq
    rw [hput] at hq
    rcases List.mem_append.1 hq with hq | hq
    · have hne : q.2 ≠ v.heap.size + 2 := by have := hlc q hq; omega
      rw [upd_other _ _ hne]
      exact (h.ctx q hq).kept hblk hM.old
    · simp only [List.mem_singleton] at hq
      subst hq
      simp only [upd_same]
      refine ⟨by omega, v.heap.size + 1, t, De, ?_, by omega, hM.own.kept hg (fun e => by have := Option.some.inj e; omega), by omega, hM.rep, hM.ap, fun x hx => ?_⟩
      · refine (World.cell?_of_block (w := u) (a := ⟨v.heap.size + 2, 4, none⟩) (hg.block _ hsz (fun e => by have := Option.some.inj e; simp only at this; omega))).trans ?_
        simp [World.cell?, hM.c]
      · obtain ⟨g1, g2⟩ := hM.ext x hx
        have hlt := ext_lt g2
        exact ⟨by omega, ext_of g2 fun o => World.cell?_of_block (w := u) (a := ⟨x.2, o, none⟩) (hg.block _ hlt (fun e => by have := Option.some.inj e; simp only at this; omega))⟩
  · rw [hput, sumBy_snoc, ← h.we]
    congr 1
    · apply sumBy_congr
      intro q hq
      have hne : q.2 ≠ v.heap.size + 2 := by have := hlc q hq; omega
      unfold ndE
      rw [upd_other _ _ hne]
      congr 1
      apply List.map_congr_left
      intro x hx
      rw [(hM.old x.2 ((h.ctx q hq).exts_lt x hx)).1]
    · unfold ndE
      rw [upd_same, ← nd_KL k m p t, ← hM.kl, List.map_map]
      rfl
  · rw [hput, sumBy_snoc, ← h.wp]
    congr 1
    · apply sumBy_congr
      intro q hq
      have hne : q.2 ≠ v.heap.size + 2 := by have := hlc q hq; omega
      unfold prE
      rw [upd_other _ _ hne]
      apply sumBy_congr
      intro x hx
      rw [(hM.old x.2 ((h.ctx q hq).exts_lt x hx)).2]
    · unfold prE
      rw [upd_same, ← sum_KL k m p t, ← hM.kl, List.map_map]
      rfl
  · intro c
    unfold upd
    split
    · omega
    · exact h.hle c

/-- What Summary gives at the end. -/
theorem sum_at {w v : World} {n : Nat} {LC : Ents} {N : Nat → ByteArray} {Q : Nat → Nat} {E : Nat → Ents} {D : DataW Unit} {we wp : Nat} (h : Big w v n LC N Q E D we wp) (hn : n ≤ 256) :
    Calls Yba.prog 10 #[.pointer (some ⟨w.heap.size, 0, none⟩)] v fun e w' => e = .returned (.agg #[.int .i64 n, .int .i64 we, .int .i64 wp]) ∧ Below v.heap.size v w' := by
  have hlen : LC.length = n := by
    have := congrArg List.length h.keys
    simpa using this
  obtain ⟨⟨c0, _, _⟩, _⟩ := blk3 h.d
  have := summary_some w.heap.size (w.heap.size + 1) n D LC N Q E v c0 h.own h.rep h.ap (fun p hp => (h.ctx p hp).ok) (by omega) h.hle h.hq
  rw [h.we, h.wp, hlen] at this
  exact this
end Go.Proofs.Ybulkayuu.Cnt
