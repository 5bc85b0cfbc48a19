import Derived.Test.Qxb6600620aModelWalk
namespace Go.Proofs.Qxb6600620a
open Go.ChangeShapes Go.WideShapes Go.ChangeAt Go.RowKit
set_option linter.unusedVariables false

theorem zzcard14_any (s : ByteArray) (i : Nat) (w : World) (hs : s.size ≤ 1048576) (hd : digB (tx s i) = true) :
    Calls Try.prog 14 #[.string s, .int .i64 i] w fun e w' => e = .returned (.int .i64 (ccAt (tx s) i)) ∧ Below w.heap.size w w' := by
  have HD := hid hd
  clear hd
  go_enter Try.func14, Try.ntmps14
  go_wp2_with fail
  refine (card_any s i _ hs HD.out).mono ?_
  rintro e w' ⟨rfl, cs, rfl⟩
  go_wp2
  go_ret
  exact ⟨rfl, (Below.refl _ _).alloc (Nat.le_refl _) _⟩

theorem zz13_yes (a : ByteArray) (i : Int) (w : World) (h : a.size ≤ 1048576) :
    Calls Try.prog 13 #[.string a, .int .i64 i] w fun e w' => e = .returned (.bool true) ∧ w' = w := by
  go_enter Try.func13, Try.ntmps13
  go_wp2
  go_ret
  exact ⟨rfl, rfl⟩

theorem zz13_no (a : ByteArray) (i : Int) (w : World) (h : ¬ a.size ≤ 1048576) (ha : a.size ≤ maxLen) :
    Calls Try.prog 13 #[.string a, .int .i64 i] w fun e w' => e = .returned (.bool false) ∧ w' = w := by
  unfold maxLen at ha
  go_enter Try.func13, Try.ntmps13
  go_wp2
  go_ret
  exact ⟨rfl, rfl⟩

set_option maxHeartbeats 1000000 in
set_option maxRecDepth 100000 in
theorem luhn_core (t : ByteArray) (I : Nat) (w : World) (ht : t.size ≤ 1048576) (hd : digB (tx t I) = true) :
    Calls Try.prog 5 #[.string t, .int .i64 I] w fun e w' => e = .returned (.bool true) ∧ Below w.heap.size w w' := by
  have hI := dig_in hd
  have hx := tx_in hI
  have HD := hid hd
  go_enter Try.func5, Try.ntmps5
  go_wp2_with fail
  refine (zz13_yes t I _ ht).mono ?_
  rintro e w ⟨rfl, rfl⟩
  go_wp2_with (go_at_call 12; refine (isDig_any _ _).mono ?_; rintro e w' ⟨rfl, rfl⟩)
  refine (zzcard14_any t I _ ht HD.out).mono ?_
  rintro e w1 ⟨rfl, hb1⟩
  go_wp2_with fail
  refine (model_any t I _ ht HD.out).mono ?_
  rintro e w2 ⟨rfl, hb2⟩
  rw [ccAt_scan]
  have HB := hid (hb1.trans (hb2.mono hb1.size))
  clear hb1 hb2
  go_wp2
  go_ret
  exact ⟨rfl, HB.out⟩

set_option maxHeartbeats 1000000 in
set_option maxRecDepth 100000 in
theorem luhn_walk (a0 : ByteArray) (a1 : Int) (w0 : a0.size ≤ maxLen) (w1 : (Lit.int .i64 a1).wf = true) (w : World) :
    Calls Try.prog 5 #[.string a0, .int .i64 a1] w fun e w' => e = .returned (.bool true) ∧ Below w.heap.size w w' := by
  by_cases hs : a0.size ≤ 1048576
  · by_cases hi : 0 ≤ a1
    · obtain ⟨I, rfl⟩ := Int.eq_ofNat_of_zero_le hi
      by_cases hI : I < a0.size
      · cases hd : digB (tx a0 I)
        · have hx := tx_in hI
          clear w0 w1
          go_enter Try.func5, Try.ntmps5
          go_wp2_with (first | (go_at_call 13; refine (zz13_yes a0 _ _ hs).mono ?_; rintro e w' ⟨rfl, rfl⟩) | (go_at_call 12; refine (isDig_any _ _).mono ?_; rintro e w' ⟨rfl, rfl⟩))
          go_ret
          exact ⟨rfl, Below.refl _ _⟩
        · exact luhn_core a0 I w hs hd
      · clear w0 w1
        go_enter Try.func5, Try.ntmps5
        go_wp2_with (go_at_call 13; refine (zz13_yes a0 _ _ hs).mono ?_; rintro e w' ⟨rfl, rfl⟩)
        go_ret
        exact ⟨rfl, Below.refl _ _⟩
    · clear w0 w1
      go_enter Try.func5, Try.ntmps5
      go_wp2_with (go_at_call 13; refine (zz13_yes a0 _ _ hs).mono ?_; rintro e w' ⟨rfl, rfl⟩)
      go_ret
      exact ⟨rfl, Below.refl _ _⟩
  · go_enter Try.func5, Try.ntmps5
    go_wp2_with (go_at_call 13; refine (zz13_no a0 _ _ hs w0).mono ?_; rintro e w' ⟨rfl, rfl⟩)
    go_ret
    exact ⟨rfl, Below.refl _ _⟩
end Go.Proofs.Qxb6600620a
