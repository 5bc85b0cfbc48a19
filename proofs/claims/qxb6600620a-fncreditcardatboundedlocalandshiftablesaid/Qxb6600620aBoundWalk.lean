import Derived.Test.Qxb6600620aCardWalk
namespace Go.Proofs.Qxb6600620a
open Go.ChangeShapes Go.WideShapes Go.ChangeAt Go.RowKit
set_option linter.unusedVariables false

theorem tx_append (p t : ByteArray) (k : Nat) : tx (p ++ t) (p.size + k) = tx t k := by
  unfold tx
  by_cases h : k < t.size
  · rw [dif_pos h, dif_pos (by rw [ByteArray.size_append]; omega)]
    rw [ByteArray.getElem_append_right (by omega)]
    simp
  · rw [dif_neg h, dif_neg (by rw [ByteArray.size_append]; omega)]

theorem tx_extract_lt (t : ByteArray) (m k : Nat) (h : k < m) : tx (t.extract 0 m) k = tx t k := by
  unfold tx
  by_cases hk : k < t.size
  · rw [dif_pos hk, dif_pos (by rw [ByteArray.size_extract]; omega), ByteArray.getElem_extract]
    simp
  · rw [dif_neg hk, dif_neg (by rw [ByteArray.size_extract]; omega)]

theorem tx_extract_ge (t : ByteArray) (m k : Nat) (h : m ≤ k) : tx (t.extract 0 m) k = 0 := by
  unfold tx
  rw [dif_neg (by rw [ByteArray.size_extract]; omega)]

theorem zzcard_any (s : ByteArray) (i : Nat) (w : World) (hs : s.size ≤ 1048576) (hd : digB (tx s i) = true) :
    Calls Try.prog 14 #[.string s, .int .i64 i] w fun e w' => e = .returned (.int .i64 (ccAt (tx s) i)) ∧ ∃ cs, w' = w.alloc (.cells cs 35) := by
  have HD := hid hd
  clear hd
  go_enter Try.func14, Try.ntmps14
  go_wp2_with fail
  refine (card_any s i _ hs HD.out).mono ?_
  rintro e w' ⟨rfl, cs, rfl⟩
  go_wp2
  go_ret
  exact ⟨rfl, cs, rfl⟩

theorem zzcard_eq (s : ByteArray) (x : Int) (i : Nat) (r : Int) (w : World) (hx : x = i) (hs : s.size ≤ 1048576) (hd : digB (tx s i) = true) (hr : ccAt (tx s) i = r) :
    Calls Try.prog 14 #[.string s, .int .i64 x] w fun e w' => e = .returned (.int .i64 r) ∧ ∃ cs, w' = w.alloc (.cells cs 35) := by
  subst hr hx
  exact zzcard_any s i w hs hd

/-- What the three further calls come to. -/
theorem lim_dig {t : ByteArray} {I m : Nat} (h : I < m) (hd : digB (tx t I) = true) : digB (tx (t.extract 0 m) I) = true := by rw [tx_extract_lt t m I h]; exact hd
theorem lim_eq {t : ByteArray} {I : Nat} {r : Int} (hr : ccAt (tx t) I = r) : ccAt (tx (t.extract 0 (I + 38))) I = r := by
  rw [← hr]; exact ccAt_local (fun k h1 h2 => tx_extract_lt t (I + 38) k h2)
theorem cut_eq {t : ByteArray} {I R : Nat} (hd : digB (tx t I) = true) (hr : ccAt (tx t) I = R) : ccAt (tx (t.extract 0 R)) I = R :=
  ccAt_cut hd hr (fun k hk => tx_extract_lt t R k hk) (tx_extract_ge t R R (Nat.le_refl _))
theorem pre_dig {p t : ByteArray} {I : Nat} (hd : digB (tx t I) = true) : digB (tx (p ++ t) (p.size + I)) = true := by rw [tx_append]; exact hd
theorem pre_none {p t : ByteArray} {I : Nat} (hr : ccAt (tx t) I = -1) : ccAt (tx (p ++ t)) (p.size + I) = -1 := by
  rw [ccAt_shift (t := tx t) (fun k => tx_append p t k), hr]; rfl
theorem pre_some {p t : ByteArray} {I R : Nat} (hr : ccAt (tx t) I = R) : ccAt (tx (p ++ t)) (p.size + I) = (R : Int) + (p.size : Int) := by
  rw [ccAt_shift (t := tx t) (fun k => tx_append p t k), hr, shiftB_nat]; omega
theorem pre_size {p t : ByteArray} (hp : p.size ≤ 524288) (ht : t.size ≤ 524288) : (p ++ t).size ≤ 1048576 := by rw [ByteArray.size_append]; omega
theorem ext_size {t : ByteArray} {m : Nat} (ht : t.size ≤ 524288) : (t.extract 0 m).size ≤ 1048576 := by rw [ByteArray.size_extract]; omega

theorem zz16_yes (a b : ByteArray) (i : Int) (w : World) (h : a.size + b.size ≤ 1048576) :
    Calls Try.prog 16 #[.string a, .string b, .int .i64 i] w fun e w' => e = .returned (.bool true) ∧ w' = w := by
  go_enter Try.func16, Try.ntmps16
  go_wp2
  go_ret
  exact ⟨rfl, rfl⟩

theorem zz16_no (a b : ByteArray) (i : Int) (w : World) (h : ¬ a.size + b.size ≤ 1048576) (ha : a.size ≤ maxLen) (hb : b.size ≤ maxLen) :
    Calls Try.prog 16 #[.string a, .string b, .int .i64 i] w fun e w' => e = .returned (.bool false) ∧ w' = w := by
  unfold maxLen at ha hb
  by_cases k0 : a.size ≤ 1048576
  · by_cases k1 : b.size ≤ 1048576
    all_goals
      go_enter Try.func16, Try.ntmps16
      go_wp2
      go_ret
      exact ⟨rfl, rfl⟩
  · go_enter Try.func16, Try.ntmps16
    go_wp2
    go_ret
    exact ⟨rfl, rfl⟩

set_option maxHeartbeats 1000000 in
set_option maxRecDepth 100000 in
theorem bound_none (p t : ByteArray) (I : Nat) (w : World) (hp : p.size ≤ 524288) (ht : t.size ≤ 524288) (hd : digB (tx t I) = true) (hr : ccAt (tx t) I = -1) :
    Calls Try.prog 6 #[.string p, .string t, .int .i64 I] w fun e w' => e = .returned (.bool true) ∧ Grown w w' := by
  have hI := dig_in hd
  have hx := tx_in hI
  have HD := hid hd
  have HR := hid hr
  clear hr
  go_enter Try.func6, Try.ntmps6
  go_wp2_with fail
  refine (zz16_yes p t I _ (by omega)).mono ?_
  rintro e w ⟨rfl, rfl⟩
  go_wp2_with (go_at_call 12; refine (isDig_any _ _).mono ?_; rintro e w' ⟨rfl, rfl⟩)
  refine (zzcard_eq t _ I (-1) _ rfl (by omega) HD.out HR.out).mono ?_
  rintro e w1 ⟨rfl, cs1, rfl⟩
  clear hd
  by_cases hl : I + 38 < t.size
  · go_wp2_with fail
    refine (zzcard_eq _ _ I (-1) _ rfl (ext_size ht) (lim_dig (by omega) HD.out) (lim_eq HR.out)).mono ?_
    rintro e w1 ⟨rfl, cs2, rfl⟩
    go_wp2_with fail
    refine (zzcard_eq _ _ (p.size + I) (-1) _ (by omega) (pre_size hp ht) (pre_dig HD.out) (pre_none HR.out)).mono ?_
    rintro e w1 ⟨rfl, cs3, rfl⟩
    go_wp2
    go_ret
    exact ⟨rfl, (((Grown.refl _).alloc _ _).alloc _ _).alloc _ _⟩
  · go_wp2_with fail
    refine (zzcard_eq _ _ (p.size + I) (-1) _ (by omega) (pre_size hp ht) (pre_dig HD.out) (pre_none HR.out)).mono ?_
    rintro e w1 ⟨rfl, cs3, rfl⟩
    go_wp2
    go_ret
    exact ⟨rfl, ((Grown.refl _).alloc _ _).alloc _ _⟩

set_option maxHeartbeats 2000000 in
set_option maxRecDepth 100000 in
theorem bound_some (p t : ByteArray) (I R : Nat) (w : World) (hp : p.size ≤ 524288) (ht : t.size ≤ 524288) (hd : digB (tx t I) = true) (hr : ccAt (tx t) I = R)
    (h13 : I + 13 ≤ R) (h37 : R ≤ I + 37) (he : digB (tx t (R - 1)) = true) (hn : digB (tx t R) = false) :
    Calls Try.prog 6 #[.string p, .string t, .int .i64 I] w fun e w' => e = .returned (.bool true) ∧ Grown w w' := by
  have hI := dig_in hd
  have hE := dig_in he
  have hx := tx_in hI
  have hxe := tx_in hE
  have HD := hid hd
  have HR := hid hr
  clear hr
  go_enter Try.func6, Try.ntmps6
  go_wp2_with fail
  refine (zz16_yes p t I _ (by omega)).mono ?_
  rintro e w ⟨rfl, rfl⟩
  go_wp2_with (go_at_call 12; refine (isDig_any _ _).mono ?_; rintro e w' ⟨rfl, rfl⟩)
  refine (zzcard_eq t _ I R _ rfl (by omega) HD.out HR.out).mono ?_
  rintro e w1 ⟨rfl, cs1, rfl⟩
  clear hd hx
  have hR0 : ((R : Int) != -1) = true := by rw [bne_iff_ne]; omega
  have hR1 : ((R : Int) == -1) = false := by rw [beq_eq_false_iff_ne]; omega
  have hRle : R ≤ t.size := by omega
  by_cases hRt : R < t.size
  · have hxR := tx_in hRt
    go_wp2_with (go_at_call 12; refine (isDig_any _ _).mono ?_; rintro e w' ⟨rfl, rfl⟩)
    refine (zzcard_eq _ _ I R _ rfl (ext_size ht) (lim_dig (by omega) HD.out) (cut_eq HD.out HR.out)).mono ?_
    rintro e w1 ⟨rfl, cs2, rfl⟩
    by_cases hl : I + 38 < t.size
    · go_wp2_with fail
      refine (zzcard_eq _ _ I R _ rfl (ext_size ht) (lim_dig (by omega) HD.out) (lim_eq HR.out)).mono ?_
      rintro e w1 ⟨rfl, cs3, rfl⟩
      go_wp2_with fail
      refine (zzcard_eq _ _ (p.size + I) ((R : Int) + (p.size : Int)) _ (by omega) (pre_size hp ht) (pre_dig HD.out) (pre_some HR.out)).mono ?_
      rintro e w1 ⟨rfl, cs4, rfl⟩
      go_wp2
      go_ret
      exact ⟨rfl, ((((Grown.refl _).alloc _ _).alloc _ _).alloc _ _).alloc _ _⟩
    · go_wp2_with fail
      refine (zzcard_eq _ _ (p.size + I) ((R : Int) + (p.size : Int)) _ (by omega) (pre_size hp ht) (pre_dig HD.out) (pre_some HR.out)).mono ?_
      rintro e w1 ⟨rfl, cs4, rfl⟩
      go_wp2
      go_ret
      exact ⟨rfl, (((Grown.refl _).alloc _ _).alloc _ _).alloc _ _⟩
  · go_wp2_with (go_at_call 12; refine (isDig_any _ _).mono ?_; rintro e w' ⟨rfl, rfl⟩)
    refine (zzcard_eq _ _ I R _ rfl (ext_size ht) (lim_dig (by omega) HD.out) (cut_eq HD.out HR.out)).mono ?_
    rintro e w1 ⟨rfl, cs2, rfl⟩
    have hl : ¬ I + 38 < t.size := by omega
    go_wp2_with fail
    refine (zzcard_eq _ _ (p.size + I) ((R : Int) + (p.size : Int)) _ (by omega) (pre_size hp ht) (pre_dig HD.out) (pre_some HR.out)).mono ?_
    rintro e w1 ⟨rfl, cs4, rfl⟩
    go_wp2
    go_ret
    exact ⟨rfl, (((Grown.refl _).alloc _ _).alloc _ _).alloc _ _⟩

set_option maxHeartbeats 1000000 in
set_option maxRecDepth 100000 in
theorem bound_walk (a0 a1 : ByteArray) (a2 : Int) (w0 : a0.size ≤ maxLen) (w1 : a1.size ≤ maxLen) (w2 : (Lit.int .i64 a2).wf = true) (w : World) :
    Calls Try.prog 6 #[.string a0, .string a1, .int .i64 a2] w fun e w' => e = .returned (.bool true) ∧ Grown w w' := by
  by_cases hs : a0.size + a1.size ≤ 1048576
  · by_cases h0 : a0.size ≤ 524288
    · by_cases h1 : a1.size ≤ 524288
      · by_cases hi : 0 ≤ a2
        · obtain ⟨I, rfl⟩ := Int.eq_ofNat_of_zero_le hi
          by_cases hI : I < a1.size
          · cases hd : digB (tx a1 I)
            · have hx := tx_in hI
              clear w0 w1 w2
              go_enter Try.func6, Try.ntmps6
              go_wp2_with (first | (go_at_call 16; refine (zz16_yes a0 a1 _ _ hs).mono ?_; rintro e w' ⟨rfl, rfl⟩) | (go_at_call 12; refine (isDig_any _ _).mono ?_; rintro e w' ⟨rfl, rfl⟩))
              go_ret
              exact ⟨rfl, Grown.refl _⟩
            · rcases ccAt_range hd with h | ⟨R, h, q1, q2, q3, q4⟩
              · exact bound_none a0 a1 I w h0 h1 hd h
              · exact bound_some a0 a1 I R w h0 h1 hd h q1 q2 q3 q4
          · clear w0 w1 w2
            go_enter Try.func6, Try.ntmps6
            go_wp2_with (go_at_call 16; refine (zz16_yes a0 a1 _ _ hs).mono ?_; rintro e w' ⟨rfl, rfl⟩)
            go_ret
            exact ⟨rfl, Grown.refl _⟩
        · clear w0 w1 w2
          go_enter Try.func6, Try.ntmps6
          go_wp2_with (go_at_call 16; refine (zz16_yes a0 a1 _ _ hs).mono ?_; rintro e w' ⟨rfl, rfl⟩)
          go_ret
          exact ⟨rfl, Grown.refl _⟩
      · clear w0 w1 w2
        go_enter Try.func6, Try.ntmps6
        go_wp2_with (go_at_call 16; refine (zz16_yes a0 a1 _ _ hs).mono ?_; rintro e w' ⟨rfl, rfl⟩)
        go_ret
        exact ⟨rfl, Grown.refl _⟩
    · clear w0 w1 w2
      go_enter Try.func6, Try.ntmps6
      go_wp2_with (go_at_call 16; refine (zz16_yes a0 a1 _ _ hs).mono ?_; rintro e w' ⟨rfl, rfl⟩)
      go_ret
      exact ⟨rfl, Grown.refl _⟩
  · go_enter Try.func6, Try.ntmps6
    go_wp2_with (go_at_call 16; refine (zz16_no a0 a1 _ _ hs w0 w1).mono ?_; rintro e w' ⟨rfl, rfl⟩)
    go_ret
    exact ⟨rfl, Grown.refl _⟩
end Go.Proofs.Qxb6600620a
