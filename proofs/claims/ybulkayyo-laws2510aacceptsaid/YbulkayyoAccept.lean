/-
  'Rows.LawS2510AAcceptSaid': function 3.
-/
import Derived.Test.YbulkayyoMore
namespace Go.Proofs.Ybulkayyo.lawS2510AAccept
open Go.ChangeShapes Go.WideShapes Go.ChangeAt Go.RowKit Go.Proofs.Ybulkayyo.Parts
open Go.ChangeMaps (open_string shut_string)
set_option linter.unusedVariables false

theorem own : ownKnob Yba.prog.godebug = none := by kernel_rfl

theorem ext_list (s : ByteArray) (a b : Nat) : (s.extract a b).toList = (s.data.toList.take b).drop a := by
  rw [ByteArray.toList_eq, ByteArray.data_extract, Array.toList_extract]
  simp [List.extract, List.drop_take]

theorem fileOk_iff (v : ByteArray) : fileOk v = true ↔ 6 ≤ v.size ∧ v.data.toList.take 5 = [102, 105, 108, 101, 58] ∧ v.data.toList[5]? = some 47 := by
  have hl : v.data.toList.length = v.size := by simp
  have hs : (v.extract 5 v.size).size = v.size - 5 := by simp
  have e1 : (ByteArray.mk #[102, 105, 108, 101, 58]).toList = [102, 105, 108, 101, 58] := by rw [ByteArray.toList_eq]
  have e2 : (ByteArray.mk #[47]).toList = [47] := by rw [ByteArray.toList_eq]
  have z1 : (ByteArray.mk #[102, 105, 108, 101, 58]).size = 5 := rfl
  have z2 : (ByteArray.mk #[47]).size = 1 := rfl
  unfold fileOk isPre
  rw [e1, e2, z1, z2, hs, ext_list, ext_list]
  simp only [Bool.and_eq_true, decide_eq_true_eq, beq_iff_eq, List.drop_zero]
  have e3 : (v.extract 5 v.size).data.toList = v.data.toList.drop 5 := by
    rw [← ByteArray.toList_eq, ext_list, List.take_of_length_le (by omega)]
  rw [e3]
  constructor
  · rintro ⟨⟨h1, h2⟩, h3, h4⟩
    refine ⟨by omega, h2, ?_⟩
    have := congrArg (fun l => l[0]?) h4
    simpa using this
  · rintro ⟨h1, h2, h3⟩
    refine ⟨⟨by omega, h2⟩, by omega, ?_⟩
    have h5 : v.data.toList.drop 5 = 47 :: v.data.toList.drop 6 := by
      rw [List.drop_eq_getElem_cons (by omega)]
      have : v.data.toList[5]'(by omega) = 47 := by
        have := List.getElem?_eq_getElem (l := v.data.toList) (i := 5) (by omega)
        rw [h3] at this
        exact (Option.some.inj this).symm
      rw [this]
    rw [h5]
    rfl

theorem ok_word1 {v : ByteArray} (h : (v.toList == [105, 110, 104, 101, 114, 105, 116]) = true) : ok v = true := by unfold ok; rw [h]; rfl
theorem ok_word2 {v : ByteArray} (h : (v.toList == [100, 105, 115, 99, 97, 114, 100]) = true) : ok v = true := by unfold ok; rw [h]; simp
theorem ok_file {v : ByteArray} (h1 : (v.toList == [105, 110, 104, 101, 114, 105, 116]) = false) (h2 : (v.toList == [100, 105, 115, 99, 97, 114, 100]) = false) : ok v = fileOk v := by unfold ok; rw [h1, h2]; rfl

theorem fileOk_short {v : ByteArray} (h : v.size < 6) : fileOk v = false := by
  cases hb : fileOk v with
  | false => rfl
  | true => have := (fileOk_iff v).1 hb; omega
theorem fileOk_head {v : ByteArray} (h : ((v.extract 0 5).toList == [102, 105, 108, 101, 58]) = false) : fileOk v = false := by
  cases hb : fileOk v with
  | false => rfl
  | true =>
    have := ((fileOk_iff v).1 hb).2.1
    rw [ext_list] at h
    simp [this] at h
theorem fileOk_byte {v : ByteArray} (h : 6 ≤ v.size) (h5 : ((v.extract 0 5).toList == [102, 105, 108, 101, 58]) = true) : fileOk v = (((v[5]'(by omega)).toNat : Int) == 47) := by
  have hl : v.data.toList.length = v.size := by simp
  rw [Bool.eq_iff_iff, fileOk_iff]
  have h5' : v.data.toList.take 5 = [102, 105, 108, 101, 58] := by rw [ext_list] at h5; simpa using h5
  have e : v.data.toList[5]? = some (v[5]'(by omega)) := by
    rw [List.getElem?_eq_getElem (by omega)]
    rfl
  rw [e]
  constructor
  · rintro ⟨_, _, h3⟩
    rw [Option.some.inj h3]
    rfl
  · intro h3
    refine ⟨h, h5', ?_⟩
    have h4 : ((v[5]'(by omega)).toNat : Int) = 47 := by simpa using h3
    congr 1
    apply UInt8.toNat_inj.1
    show _ = 47
    omega

set_option maxHeartbeats 800000 in
theorem want_any (v : ByteArray) (w : World) (hv : v.size ≤ 10000) : Calls Yba.prog 6 #[.string v] w fun e w' => e = .returned (.bool (ok v)) ∧ w' = w := by
  cases h1 : (v.toList == [105, 110, 104, 101, 114, 105, 116]) with
  | true =>
    rw [ok_word1 h1]
    go_enter Yba.func6, Yba.ntmps6
    go_wp2
    go_ret
    exact ⟨rfl, rfl⟩
  | false =>
    cases h2 : (v.toList == [100, 105, 115, 99, 97, 114, 100]) with
    | true =>
      rw [ok_word2 h2]
      go_enter Yba.func6, Yba.ntmps6
      go_wp2
      go_ret
      exact ⟨rfl, rfl⟩
    | false =>
      rw [ok_file h1 h2]
      by_cases h3 : v.size < 6
      · rw [fileOk_short h3]
        have h3' : ¬ (6 : Int) ≤ (v.size : Int) := by omega
        go_enter Yba.func6, Yba.ntmps6
        go_wp2
        go_ret
        exact ⟨rfl, rfl⟩
      · have h3' : (6 : Int) ≤ (v.size : Int) := by omega
        have h5s : 5 < v.size := by omega
        have h5t : 5 ≤ v.size := by omega
        cases h4 : ((v.extract 0 5).toList == [102, 105, 108, 101, 58]) with
        | false =>
          rw [fileOk_head h4]
          go_enter Yba.func6, Yba.ntmps6
          go_wp2
          go_ret
          exact ⟨rfl, rfl⟩
        | true =>
          rw [fileOk_byte (by omega) h4]
          go_enter Yba.func6, Yba.ntmps6
          go_wp2
          go_ret
          exact ⟨rfl, rfl⟩

set_option maxHeartbeats 800000 in
theorem walk (a0 : Int) (a1 : ByteArray) (a2 : ByteArray) (w0 : (Lit.int .u8 a0).wf = true) (w1 : a1.size ≤ maxLen) (w2 : a2.size ≤ maxLen) (w : World) :
    Calls Yba.prog 3 #[.int .u8 a0, .string a1, .string a2] w fun e w' => e = .returned (.bool true) ∧ Grown w w' := by
  have hb := bounds_u8 w0
  have hm1 := w1
  unfold maxLen at hm1
  by_cases hbig : (4096 : Int) < (a1.size : Int)
  · go_enter Yba.func3, Yba.ntmps3
    go_wp2
    go_ret
    exact ⟨rfl, Grown.refl _⟩
  have hp := head_any a0 hb.1 (by omega)
  have hps := pfx_size a0
  generalize pfx a0 = p at hp hps
  have HP : Hid (∀ w : World, Calls Yba.prog 4 #[.int .u8 a0] w fun e w' => e = .returned (.string p) ∧ w' = w) := hp
  obtain ⟨v, hv⟩ : ∃ v, v = p ++ a1 := ⟨_, rfl⟩
  have hvs : v.size ≤ 10000 := by rw [hv, ByteArray.size_append]; omega
  have hadd : ∀ wx, (Op.stringOp .add p a1).run Yba.prog wx = .ok (.string v) wx := fun wx => by
    rw [hv]; exact run_string_add_sum wx p a1 (by omega)
  clear hp hv w0
  obtain ⟨hb0, hb1⟩ := hb
  have hset : ∀ (b : Nat) (x : ByteArray) (wx : World), wx.cell? ⟨b, 0, none⟩ = some (.string x) → wx.frozen? ⟨b, 0, none⟩ = false → ok v = true →
      Calls Yba.prog 5 #[.pointer (some ⟨b, 0, none⟩), .string v] wx fun e w' => e = .returned .nilIface ∧ w' = wx.setCell ⟨b, 0, none⟩ (.string v) := fun b x wx hc hf hok => by
    cases h1 : (v.toList == [105, 110, 104, 101, 114, 105, 116]) with
    | true => rw [of_list h1]; exact set_inh b x wx hc hf
    | false =>
      cases h2 : (v.toList == [100, 105, 115, 99, 97, 114, 100]) with
      | true => rw [of_list h2]; exact set_dis b x wx hc hf
      | false => exact set_file v b x wx hc hf h1 h2 (by rw [← ok_file h1 h2]; exact hok)
  have hno : ∀ (q : Value) (wx : World), ok v = false → Calls Yba.prog 5 #[q, .string v] wx fun e w' => e = .returned (.iface 34 (.pointer (some ⟨wx.heap.size, 0, none⟩))) ∧ ∃ m, w' = wx.alloc (.cells #[.string m] 36) := fun q wx hok => by
    cases h1 : (v.toList == [105, 110, 104, 101, 114, 105, 116]) with
    | true => rw [ok_word1 h1] at hok; cases hok
    | false =>
      cases h2 : (v.toList == [100, 105, 115, 99, 97, 114, 100]) with
      | true => rw [ok_word2 h2] at hok; cases hok
      | false => exact set_no v q wx h1 h2 (by rw [← ok_file h1 h2]; exact hok)
  have hwant := fun wx => want_any v wx hvs
  cases hok : ok v with
  | true =>
    have S : Hid (∀ (b : Nat) (x : ByteArray) (wx : World), wx.cell? ⟨b, 0, none⟩ = some (.string x) → wx.frozen? ⟨b, 0, none⟩ = false →
      Calls Yba.prog 5 #[.pointer (some ⟨b, 0, none⟩), .string v] wx fun e w' => e = .returned .nilIface ∧ w' = wx.setCell ⟨b, 0, none⟩ (.string v)) := fun b x wx h1 h2 => hset b x wx h1 h2 hok
    rw [hok] at hwant
    have HW : Hid (∀ wx : World, Calls Yba.prog 6 #[.string v] wx fun e w' => e = .returned (.bool true) ∧ w' = wx) := hwant
    clear hset hno hwant hok
    go_enter Yba.func3, Yba.ntmps3
    go_wp2_with (first | (go_at_call 4; refine (HP.out _).mono ?_; rintro e w' ⟨rfl, rfl⟩) | (go_at_call 5; refine (S.out _ a2 _ (by simp) (by simp)).mono ?_; rintro e w' ⟨rfl, rfl⟩) | (go_at_call 6; refine (HW.out _).mono ?_; rintro e w' ⟨rfl, rfl⟩))

    go_ret
    exact ⟨rfl, by repeat (first | exact Grown.refl _ | apply Grown.drew | apply Grown.alloc)⟩
  | false =>
    have S : Hid (∀ (q : Value) (wx : World), Calls Yba.prog 5 #[q, .string v] wx fun e w' => e = .returned (.iface 34 (.pointer (some ⟨wx.heap.size, 0, none⟩))) ∧ ∃ m, w' = wx.alloc (.cells #[.string m] 36)) := fun q wx => hno q wx hok
    rw [hok] at hwant
    have HW : Hid (∀ wx : World, Calls Yba.prog 6 #[.string v] wx fun e w' => e = .returned (.bool false) ∧ w' = wx) := hwant
    clear hset hno hwant hok
    go_enter Yba.func3, Yba.ntmps3
    go_wp2_with (first | (go_at_call 4; refine (HP.out _).mono ?_; rintro e w' ⟨rfl, rfl⟩) | (go_at_call 5; refine (S.out _ _).mono ?_; rintro e w' ⟨rfl, m, rfl⟩) | (go_at_call 6; refine (HW.out _).mono ?_; rintro e w' ⟨rfl, rfl⟩))

    go_ret
    exact ⟨rfl, by repeat (first | exact Grown.refl _ | apply Grown.drew | apply Grown.alloc)⟩

/-! ### THE ROW's STEP: WRITTEN OUT -/
set_option maxRecDepth 100000 in
theorem lifted (os : Os) (started : os.Started) (H : Type) (enc : TypeId × Value → H) :
    ReturnsInHanded {} Yba.checked os 3 .any (Rows.lawS2510AAcceptSpec.pre6 enc Yba.prog Yba.f3 Rows.lawS2510AAcceptRow.domain false) (Rows.lawS2510AAcceptSpec.post enc Yba.prog Yba.f3 false true false false) := by
  refine returnsInHanded_of_change (C := Yba.checked) own started (by kernel_rfl) Yba.func3
    (ChangeSpec.witness6 (enc := enc) (C := Yba.checked) false ⟨#[], #[.int .u8 0, .string ByteArray.empty, .string ByteArray.empty], []⟩ 8 (by kernel_rfl) (by kernel_rfl) (by kernel_rfl) (by kernel_rfl)) ?_
  intro W base args ds gs before hval0 hW hcnd _
  have hval : ∀ (j : Nat) t v, Yba.f3.params[j]? = some t → args[j]? = some v → Value.okWide Yba.prog W .any base t v := hval0
  have hW' := hW
  obtain ⟨p, q, hA0, hV, rfl, hfz, hnd⟩ := hW
  have hA : DataW.TrodAll enc Yba.prog W 0 (fun _ => true) true Yba.f3.params.toList args.toList ds p := hA0
  rw [Yba.params3] at hA hval
  obtain ⟨v0, vs0, d0, ds0, p0, q0, hargs, rfl, rfl, h0, r0⟩ := trodAll_cons hA
  obtain ⟨v1, vs1, d1, ds1, p1, q1, rfl, rfl, rfl, h1, r1⟩ := trodAll_cons r0
  obtain ⟨v2, vs2, d2, ds2, p2, q2, rfl, rfl, rfl, h2, r2⟩ := trodAll_cons r1
  obtain ⟨rfl, rfl, rfl⟩ := trodAll_nil r2
  obtain rfl : args = #[v0, v1, v2] := by cases args; simp_all
  obtain ⟨rfl, rfl⟩ := trodVars_none hV
  obtain ⟨a0, rfl, rfl, rfl, w0⟩ := open_int Yba.underlying5 (hval 0 5 v0 rfl rfl) h0
  obtain ⟨a1, rfl, rfl, rfl, w1⟩ := open_string Yba.underlying9 (hval 1 9 v1 rfl rfl) h1
  obtain ⟨a2, rfl, rfl, rfl, w2⟩ := open_string Yba.underlying9 (hval 2 9 v2 rfl rfl) h2
  clear hA0 hval0
  simp only [List.append_nil] at hW'
  refine (walk a0 a1 a2 w0 w1 w2 W).mono fun e W' ⟨he, hg⟩ => ?_
  subst he
  exact ⟨_, rfl, post_of_same (pa := []) (pv := []) hW' (fun _ _ _ => (trodAll_cons_mk (shut_bool Yba.underlying4 _) trodAll_mk0)) (fun sp _ => (trodAll_cons_mk (shut_int Yba.underlying5 w0) (trodAll_cons_mk (shut_string Yba.underlying9 w1) (trodAll_cons_mk (shut_string Yba.underlying9 w2) trodAll_mk0)))) (fun _ _ => rfl) rfl
    (hg.frame _) hg.2.1 (ok_one (by kernel_rfl) rfl (okWide_bool_mk Yba.underlying4 _))⟩

theorem over : Rows.lawS2510AAcceptRow.holds Yba.pinned (OpenSpec.ofChange Rows.lawS2510AAcceptSpec) :=
  OpenClaim.holds_of_wide 3 Yba.f3 rfl rfl rfl rfl rfl rfl rfl ⟨rfl, rfl, rfl, rfl, rfl⟩ rfl rfl rfl rfl rfl (by kernel_rfl) Yba.func3 (by kernel_rfl)
    (of_decide_eq_true (by kernel_rfl)) (by unfold Func.isWrapper; first | (rw [if_pos (by decide +kernel)]; kernel_rfl) | (rw [if_neg (by decide +kernel)]; exact ⟨rfl, rfl⟩))
    (fun os started H enc _ => lifted os started H enc)

/-- THE STATEMENT -/
theorem proved : Rows.LawS2510AAcceptSaid :=
  over
#print axioms proved
end Go.Proofs.Ybulkayyo.lawS2510AAccept
