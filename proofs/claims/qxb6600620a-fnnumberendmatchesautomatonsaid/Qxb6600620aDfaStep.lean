import Derived.Test.Qxb6600620aNumClone
import Derived.Test.Qxb6600620aDfaPlain
namespace Go.Proofs.Qxb6600620a.Num
open Go.ChangeShapes Go.WideShapes Go.ChangeAt Go.RowKit
set_option linter.unusedVariables false
set_option linter.unusedSimpArgs false

theorem isExp_any (c : Int) (w : World) : Calls Try.prog 24 #[.int .u8 c] w fun e w' => e = .returned (.bool ((c == 101) || (c == 69))) ∧ w' = w := by
  cases h1 : (c == 101)
  all_goals
    go_enter Try.func24, Try.ntmps24
    go_wp2
    go_ret
    exact ⟨rfl, rfl⟩

theorem nv0_0 {c : Int}  (h45 : (c == 45) = true) : (1 : Int) = nst 0 c := by
  try simp only [beq_iff_eq, beq_eq_false_iff_ne, Bool.or_eq_true, Bool.or_eq_false_iff, ne_eq] at *
  simp [nst, *]
  all_goals decide
theorem nv0_1 {c : Int} (h45 : (c == 45) = false) (h48 : (c == 48) = true) : (2 : Int) = nst 0 c := by
  try simp only [beq_iff_eq, beq_eq_false_iff_ne, Bool.or_eq_true, Bool.or_eq_false_iff, ne_eq] at *
  simp [nst, *]
  all_goals decide
theorem nv0_2 {c : Int} (h45 : (c == 45) = false) (h48 : (c == 48) = false) (hd : digB c = true) : (3 : Int) = nst 0 c := by
  try simp only [beq_iff_eq, beq_eq_false_iff_ne, Bool.or_eq_true, Bool.or_eq_false_iff, ne_eq] at *
  simp [nst, *]
  all_goals decide
theorem nv0_no {c : Int} (h45 : (c == 45) = false) (h48 : (c == 48) = false) (hd : digB c = false) : (-1 : Int) = nst 0 c := by
  try simp only [beq_iff_eq, beq_eq_false_iff_ne, Bool.or_eq_true, Bool.or_eq_false_iff, ne_eq] at *
  simp [nst, *]
  all_goals decide
theorem nv1_0 {c : Int}  (h48 : (c == 48) = true) : (2 : Int) = nst 1 c := by
  try simp only [beq_iff_eq, beq_eq_false_iff_ne, Bool.or_eq_true, Bool.or_eq_false_iff, ne_eq] at *
  simp [nst, *]
  all_goals decide
theorem nv1_1 {c : Int} (h48 : (c == 48) = false) (hd : digB c = true) : (3 : Int) = nst 1 c := by
  try simp only [beq_iff_eq, beq_eq_false_iff_ne, Bool.or_eq_true, Bool.or_eq_false_iff, ne_eq] at *
  simp [nst, *]
  all_goals decide
theorem nv1_no {c : Int} (h48 : (c == 48) = false) (hd : digB c = false) : (-1 : Int) = nst 1 c := by
  try simp only [beq_iff_eq, beq_eq_false_iff_ne, Bool.or_eq_true, Bool.or_eq_false_iff, ne_eq] at *
  simp [nst, *]
  all_goals decide
theorem nv2_0 {c : Int}  (h46 : (c == 46) = true) : (4 : Int) = nst 2 c := by
  try simp only [beq_iff_eq, beq_eq_false_iff_ne, Bool.or_eq_true, Bool.or_eq_false_iff, ne_eq] at *
  simp [nst, *]
  all_goals decide
theorem nv2_1 {c : Int} (h46 : (c == 46) = false) (he : ((c == 101) || (c == 69)) = true) : (6 : Int) = nst 2 c := by
  try simp only [beq_iff_eq, beq_eq_false_iff_ne, Bool.or_eq_true, Bool.or_eq_false_iff, ne_eq] at *
  simp [nst, *]
  all_goals decide
theorem nv2_no {c : Int} (h46 : (c == 46) = false) (he : ((c == 101) || (c == 69)) = false) : (-1 : Int) = nst 2 c := by
  try simp only [beq_iff_eq, beq_eq_false_iff_ne, Bool.or_eq_true, Bool.or_eq_false_iff, ne_eq] at *
  simp [nst, *]
  all_goals decide
theorem nv3_0 {c : Int}  (hd : digB c = true) : (3 : Int) = nst 3 c := by
  try simp only [beq_iff_eq, beq_eq_false_iff_ne, Bool.or_eq_true, Bool.or_eq_false_iff, ne_eq] at *
  simp [nst, *]
  all_goals decide
theorem nv3_1 {c : Int} (hd : digB c = false) (h46 : (c == 46) = true) : (4 : Int) = nst 3 c := by
  try simp only [beq_iff_eq, beq_eq_false_iff_ne, Bool.or_eq_true, Bool.or_eq_false_iff, ne_eq] at *
  simp [nst, *]
  all_goals decide
theorem nv3_2 {c : Int} (hd : digB c = false) (h46 : (c == 46) = false) (he : ((c == 101) || (c == 69)) = true) : (6 : Int) = nst 3 c := by
  try simp only [beq_iff_eq, beq_eq_false_iff_ne, Bool.or_eq_true, Bool.or_eq_false_iff, ne_eq] at *
  simp [nst, *]
  all_goals decide
theorem nv3_no {c : Int} (hd : digB c = false) (h46 : (c == 46) = false) (he : ((c == 101) || (c == 69)) = false) : (-1 : Int) = nst 3 c := by
  try simp only [beq_iff_eq, beq_eq_false_iff_ne, Bool.or_eq_true, Bool.or_eq_false_iff, ne_eq] at *
  simp [nst, *]
  all_goals decide
theorem nv4_0 {c : Int}  (hd : digB c = true) : (5 : Int) = nst 4 c := by
  try simp only [beq_iff_eq, beq_eq_false_iff_ne, Bool.or_eq_true, Bool.or_eq_false_iff, ne_eq] at *
  simp [nst, *]
  all_goals decide
theorem nv4_no {c : Int} (hd : digB c = false) : (-1 : Int) = nst 4 c := by
  try simp only [beq_iff_eq, beq_eq_false_iff_ne, Bool.or_eq_true, Bool.or_eq_false_iff, ne_eq] at *
  simp [nst, *]
  all_goals decide
theorem nv5_0 {c : Int}  (hd : digB c = true) : (5 : Int) = nst 5 c := by
  try simp only [beq_iff_eq, beq_eq_false_iff_ne, Bool.or_eq_true, Bool.or_eq_false_iff, ne_eq] at *
  simp [nst, *]
  all_goals decide
theorem nv5_1 {c : Int} (hd : digB c = false) (he : ((c == 101) || (c == 69)) = true) : (6 : Int) = nst 5 c := by
  try simp only [beq_iff_eq, beq_eq_false_iff_ne, Bool.or_eq_true, Bool.or_eq_false_iff, ne_eq] at *
  simp [nst, *]
  all_goals decide
theorem nv5_no {c : Int} (hd : digB c = false) (he : ((c == 101) || (c == 69)) = false) : (-1 : Int) = nst 5 c := by
  try simp only [beq_iff_eq, beq_eq_false_iff_ne, Bool.or_eq_true, Bool.or_eq_false_iff, ne_eq] at *
  simp [nst, *]
  all_goals decide
theorem nv6_0 {c : Int}  (h43 : (c == 43) = true) : (7 : Int) = nst 6 c := by
  try simp only [beq_iff_eq, beq_eq_false_iff_ne, Bool.or_eq_true, Bool.or_eq_false_iff, ne_eq] at *
  simp [nst, *]
  all_goals decide
theorem nv6_1 {c : Int} (h43 : (c == 43) = false) (h45 : (c == 45) = true) : (7 : Int) = nst 6 c := by
  try simp only [beq_iff_eq, beq_eq_false_iff_ne, Bool.or_eq_true, Bool.or_eq_false_iff, ne_eq] at *
  simp [nst, *]
  all_goals decide
theorem nv6_2 {c : Int} (h43 : (c == 43) = false) (h45 : (c == 45) = false) (hd : digB c = true) : (8 : Int) = nst 6 c := by
  try simp only [beq_iff_eq, beq_eq_false_iff_ne, Bool.or_eq_true, Bool.or_eq_false_iff, ne_eq] at *
  simp [nst, *]
  all_goals decide
theorem nv6_no {c : Int} (h43 : (c == 43) = false) (h45 : (c == 45) = false) (hd : digB c = false) : (-1 : Int) = nst 6 c := by
  try simp only [beq_iff_eq, beq_eq_false_iff_ne, Bool.or_eq_true, Bool.or_eq_false_iff, ne_eq] at *
  simp [nst, *]
  all_goals decide
theorem nv7_0 {c : Int}  (hd : digB c = true) : (8 : Int) = nst 7 c := by
  try simp only [beq_iff_eq, beq_eq_false_iff_ne, Bool.or_eq_true, Bool.or_eq_false_iff, ne_eq] at *
  simp [nst, *]
  all_goals decide
theorem nv7_no {c : Int} (hd : digB c = false) : (-1 : Int) = nst 7 c := by
  try simp only [beq_iff_eq, beq_eq_false_iff_ne, Bool.or_eq_true, Bool.or_eq_false_iff, ne_eq] at *
  simp [nst, *]
  all_goals decide
theorem nv8_0 {c : Int}  (hd : digB c = true) : (8 : Int) = nst 8 c := by
  try simp only [beq_iff_eq, beq_eq_false_iff_ne, Bool.or_eq_true, Bool.or_eq_false_iff, ne_eq] at *
  simp [nst, *]
  all_goals decide
theorem nv8_no {c : Int} (hd : digB c = false) : (-1 : Int) = nst 8 c := by
  try simp only [beq_iff_eq, beq_eq_false_iff_ne, Bool.or_eq_true, Bool.or_eq_false_iff, ne_eq] at *
  simp [nst, *]
  all_goals decide

theorem step0 (c : Int) (w : World) : Calls Try.prog 18 #[.int .i64 0, .int .u8 c] w fun e w' => e = .returned (.int .i64 (nst 0 c)) ∧ w' = w := by
  cases h45 : (c == 45)
  rotate_left
  · have HV := hid (nv0_0 h45)
    go_enter Try.func18, Try.ntmps18
    go_wp2_with (first | (go_at_call 12; refine (isDig_any _ _).mono ?_; rintro e w' ⟨rfl, rfl⟩) | (go_at_call 24; refine (isExp_any _ _).mono ?_; rintro e w' ⟨rfl, rfl⟩))
    go_ret
    exact ⟨ret_int HV.out, rfl⟩
  cases h48 : (c == 48)
  rotate_left
  · have HV := hid (nv0_1 h45 h48)
    go_enter Try.func18, Try.ntmps18
    go_wp2_with (first | (go_at_call 12; refine (isDig_any _ _).mono ?_; rintro e w' ⟨rfl, rfl⟩) | (go_at_call 24; refine (isExp_any _ _).mono ?_; rintro e w' ⟨rfl, rfl⟩))
    go_ret
    exact ⟨ret_int HV.out, rfl⟩
  cases hd : digB c
  rotate_left
  · have HV := hid (nv0_2 h45 h48 hd)
    go_enter Try.func18, Try.ntmps18
    go_wp2_with (first | (go_at_call 12; refine (isDig_any _ _).mono ?_; rintro e w' ⟨rfl, rfl⟩) | (go_at_call 24; refine (isExp_any _ _).mono ?_; rintro e w' ⟨rfl, rfl⟩))
    go_ret
    exact ⟨ret_int HV.out, rfl⟩
  have HV := hid (nv0_no h45 h48 hd)
  go_enter Try.func18, Try.ntmps18
  go_wp2_with (first | (go_at_call 12; refine (isDig_any _ _).mono ?_; rintro e w' ⟨rfl, rfl⟩) | (go_at_call 24; refine (isExp_any _ _).mono ?_; rintro e w' ⟨rfl, rfl⟩))
  go_ret
  exact ⟨ret_int HV.out, rfl⟩

theorem step1 (c : Int) (w : World) : Calls Try.prog 18 #[.int .i64 1, .int .u8 c] w fun e w' => e = .returned (.int .i64 (nst 1 c)) ∧ w' = w := by
  cases h48 : (c == 48)
  rotate_left
  · have HV := hid (nv1_0 h48)
    go_enter Try.func18, Try.ntmps18
    go_wp2_with (first | (go_at_call 12; refine (isDig_any _ _).mono ?_; rintro e w' ⟨rfl, rfl⟩) | (go_at_call 24; refine (isExp_any _ _).mono ?_; rintro e w' ⟨rfl, rfl⟩))
    go_ret
    exact ⟨ret_int HV.out, rfl⟩
  cases hd : digB c
  rotate_left
  · have HV := hid (nv1_1 h48 hd)
    go_enter Try.func18, Try.ntmps18
    go_wp2_with (first | (go_at_call 12; refine (isDig_any _ _).mono ?_; rintro e w' ⟨rfl, rfl⟩) | (go_at_call 24; refine (isExp_any _ _).mono ?_; rintro e w' ⟨rfl, rfl⟩))
    go_ret
    exact ⟨ret_int HV.out, rfl⟩
  have HV := hid (nv1_no h48 hd)
  go_enter Try.func18, Try.ntmps18
  go_wp2_with (first | (go_at_call 12; refine (isDig_any _ _).mono ?_; rintro e w' ⟨rfl, rfl⟩) | (go_at_call 24; refine (isExp_any _ _).mono ?_; rintro e w' ⟨rfl, rfl⟩))
  go_ret
  exact ⟨ret_int HV.out, rfl⟩

theorem step2 (c : Int) (w : World) : Calls Try.prog 18 #[.int .i64 2, .int .u8 c] w fun e w' => e = .returned (.int .i64 (nst 2 c)) ∧ w' = w := by
  cases h46 : (c == 46)
  rotate_left
  · have HV := hid (nv2_0 h46)
    go_enter Try.func18, Try.ntmps18
    go_wp2_with (first | (go_at_call 12; refine (isDig_any _ _).mono ?_; rintro e w' ⟨rfl, rfl⟩) | (go_at_call 24; refine (isExp_any _ _).mono ?_; rintro e w' ⟨rfl, rfl⟩))
    go_ret
    exact ⟨ret_int HV.out, rfl⟩
  cases he : ((c == 101) || (c == 69))
  rotate_left
  · have HV := hid (nv2_1 h46 he)
    go_enter Try.func18, Try.ntmps18
    go_wp2_with (first | (go_at_call 12; refine (isDig_any _ _).mono ?_; rintro e w' ⟨rfl, rfl⟩) | (go_at_call 24; refine (isExp_any _ _).mono ?_; rintro e w' ⟨rfl, rfl⟩))
    go_ret
    exact ⟨ret_int HV.out, rfl⟩
  have HV := hid (nv2_no h46 he)
  go_enter Try.func18, Try.ntmps18
  go_wp2_with (first | (go_at_call 12; refine (isDig_any _ _).mono ?_; rintro e w' ⟨rfl, rfl⟩) | (go_at_call 24; refine (isExp_any _ _).mono ?_; rintro e w' ⟨rfl, rfl⟩))
  go_ret
  exact ⟨ret_int HV.out, rfl⟩

theorem step3 (c : Int) (w : World) : Calls Try.prog 18 #[.int .i64 3, .int .u8 c] w fun e w' => e = .returned (.int .i64 (nst 3 c)) ∧ w' = w := by
  cases hd : digB c
  rotate_left
  · have HV := hid (nv3_0 hd)
    go_enter Try.func18, Try.ntmps18
    go_wp2_with (first | (go_at_call 12; refine (isDig_any _ _).mono ?_; rintro e w' ⟨rfl, rfl⟩) | (go_at_call 24; refine (isExp_any _ _).mono ?_; rintro e w' ⟨rfl, rfl⟩))
    go_ret
    exact ⟨ret_int HV.out, rfl⟩
  cases h46 : (c == 46)
  rotate_left
  · have HV := hid (nv3_1 hd h46)
    go_enter Try.func18, Try.ntmps18
    go_wp2_with (first | (go_at_call 12; refine (isDig_any _ _).mono ?_; rintro e w' ⟨rfl, rfl⟩) | (go_at_call 24; refine (isExp_any _ _).mono ?_; rintro e w' ⟨rfl, rfl⟩))
    go_ret
    exact ⟨ret_int HV.out, rfl⟩
  cases he : ((c == 101) || (c == 69))
  rotate_left
  · have HV := hid (nv3_2 hd h46 he)
    go_enter Try.func18, Try.ntmps18
    go_wp2_with (first | (go_at_call 12; refine (isDig_any _ _).mono ?_; rintro e w' ⟨rfl, rfl⟩) | (go_at_call 24; refine (isExp_any _ _).mono ?_; rintro e w' ⟨rfl, rfl⟩))
    go_ret
    exact ⟨ret_int HV.out, rfl⟩
  have HV := hid (nv3_no hd h46 he)
  go_enter Try.func18, Try.ntmps18
  go_wp2_with (first | (go_at_call 12; refine (isDig_any _ _).mono ?_; rintro e w' ⟨rfl, rfl⟩) | (go_at_call 24; refine (isExp_any _ _).mono ?_; rintro e w' ⟨rfl, rfl⟩))
  go_ret
  exact ⟨ret_int HV.out, rfl⟩

theorem step4 (c : Int) (w : World) : Calls Try.prog 18 #[.int .i64 4, .int .u8 c] w fun e w' => e = .returned (.int .i64 (nst 4 c)) ∧ w' = w := by
  cases hd : digB c
  rotate_left
  · have HV := hid (nv4_0 hd)
    go_enter Try.func18, Try.ntmps18
    go_wp2_with (first | (go_at_call 12; refine (isDig_any _ _).mono ?_; rintro e w' ⟨rfl, rfl⟩) | (go_at_call 24; refine (isExp_any _ _).mono ?_; rintro e w' ⟨rfl, rfl⟩))
    go_ret
    exact ⟨ret_int HV.out, rfl⟩
  have HV := hid (nv4_no hd)
  go_enter Try.func18, Try.ntmps18
  go_wp2_with (first | (go_at_call 12; refine (isDig_any _ _).mono ?_; rintro e w' ⟨rfl, rfl⟩) | (go_at_call 24; refine (isExp_any _ _).mono ?_; rintro e w' ⟨rfl, rfl⟩))
  go_ret
  exact ⟨ret_int HV.out, rfl⟩

theorem step5 (c : Int) (w : World) : Calls Try.prog 18 #[.int .i64 5, .int .u8 c] w fun e w' => e = .returned (.int .i64 (nst 5 c)) ∧ w' = w := by
  cases hd : digB c
  rotate_left
  · have HV := hid (nv5_0 hd)
    go_enter Try.func18, Try.ntmps18
    go_wp2_with (first | (go_at_call 12; refine (isDig_any _ _).mono ?_; rintro e w' ⟨rfl, rfl⟩) | (go_at_call 24; refine (isExp_any _ _).mono ?_; rintro e w' ⟨rfl, rfl⟩))
    go_ret
    exact ⟨ret_int HV.out, rfl⟩
  cases he : ((c == 101) || (c == 69))
  rotate_left
  · have HV := hid (nv5_1 hd he)
    go_enter Try.func18, Try.ntmps18
    go_wp2_with (first | (go_at_call 12; refine (isDig_any _ _).mono ?_; rintro e w' ⟨rfl, rfl⟩) | (go_at_call 24; refine (isExp_any _ _).mono ?_; rintro e w' ⟨rfl, rfl⟩))
    go_ret
    exact ⟨ret_int HV.out, rfl⟩
  have HV := hid (nv5_no hd he)
  go_enter Try.func18, Try.ntmps18
  go_wp2_with (first | (go_at_call 12; refine (isDig_any _ _).mono ?_; rintro e w' ⟨rfl, rfl⟩) | (go_at_call 24; refine (isExp_any _ _).mono ?_; rintro e w' ⟨rfl, rfl⟩))
  go_ret
  exact ⟨ret_int HV.out, rfl⟩

theorem step6 (c : Int) (w : World) : Calls Try.prog 18 #[.int .i64 6, .int .u8 c] w fun e w' => e = .returned (.int .i64 (nst 6 c)) ∧ w' = w := by
  cases h43 : (c == 43)
  rotate_left
  · have HV := hid (nv6_0 h43)
    go_enter Try.func18, Try.ntmps18
    go_wp2_with (first | (go_at_call 12; refine (isDig_any _ _).mono ?_; rintro e w' ⟨rfl, rfl⟩) | (go_at_call 24; refine (isExp_any _ _).mono ?_; rintro e w' ⟨rfl, rfl⟩))
    go_ret
    exact ⟨ret_int HV.out, rfl⟩
  cases h45 : (c == 45)
  rotate_left
  · have HV := hid (nv6_1 h43 h45)
    go_enter Try.func18, Try.ntmps18
    go_wp2_with (first | (go_at_call 12; refine (isDig_any _ _).mono ?_; rintro e w' ⟨rfl, rfl⟩) | (go_at_call 24; refine (isExp_any _ _).mono ?_; rintro e w' ⟨rfl, rfl⟩))
    go_ret
    exact ⟨ret_int HV.out, rfl⟩
  cases hd : digB c
  rotate_left
  · have HV := hid (nv6_2 h43 h45 hd)
    go_enter Try.func18, Try.ntmps18
    go_wp2_with (first | (go_at_call 12; refine (isDig_any _ _).mono ?_; rintro e w' ⟨rfl, rfl⟩) | (go_at_call 24; refine (isExp_any _ _).mono ?_; rintro e w' ⟨rfl, rfl⟩))
    go_ret
    exact ⟨ret_int HV.out, rfl⟩
  have HV := hid (nv6_no h43 h45 hd)
  go_enter Try.func18, Try.ntmps18
  go_wp2_with (first | (go_at_call 12; refine (isDig_any _ _).mono ?_; rintro e w' ⟨rfl, rfl⟩) | (go_at_call 24; refine (isExp_any _ _).mono ?_; rintro e w' ⟨rfl, rfl⟩))
  go_ret
  exact ⟨ret_int HV.out, rfl⟩

theorem step7 (c : Int) (w : World) : Calls Try.prog 18 #[.int .i64 7, .int .u8 c] w fun e w' => e = .returned (.int .i64 (nst 7 c)) ∧ w' = w := by
  cases hd : digB c
  rotate_left
  · have HV := hid (nv7_0 hd)
    go_enter Try.func18, Try.ntmps18
    go_wp2_with (first | (go_at_call 12; refine (isDig_any _ _).mono ?_; rintro e w' ⟨rfl, rfl⟩) | (go_at_call 24; refine (isExp_any _ _).mono ?_; rintro e w' ⟨rfl, rfl⟩))
    go_ret
    exact ⟨ret_int HV.out, rfl⟩
  have HV := hid (nv7_no hd)
  go_enter Try.func18, Try.ntmps18
  go_wp2_with (first | (go_at_call 12; refine (isDig_any _ _).mono ?_; rintro e w' ⟨rfl, rfl⟩) | (go_at_call 24; refine (isExp_any _ _).mono ?_; rintro e w' ⟨rfl, rfl⟩))
  go_ret
  exact ⟨ret_int HV.out, rfl⟩

theorem step8 (c : Int) (w : World) : Calls Try.prog 18 #[.int .i64 8, .int .u8 c] w fun e w' => e = .returned (.int .i64 (nst 8 c)) ∧ w' = w := by
  cases hd : digB c
  rotate_left
  · have HV := hid (nv8_0 hd)
    go_enter Try.func18, Try.ntmps18
    go_wp2_with (first | (go_at_call 12; refine (isDig_any _ _).mono ?_; rintro e w' ⟨rfl, rfl⟩) | (go_at_call 24; refine (isExp_any _ _).mono ?_; rintro e w' ⟨rfl, rfl⟩))
    go_ret
    exact ⟨ret_int HV.out, rfl⟩
  have HV := hid (nv8_no hd)
  go_enter Try.func18, Try.ntmps18
  go_wp2_with (first | (go_at_call 12; refine (isDig_any _ _).mono ?_; rintro e w' ⟨rfl, rfl⟩) | (go_at_call 24; refine (isExp_any _ _).mono ?_; rintro e w' ⟨rfl, rfl⟩))
  go_ret
  exact ⟨ret_int HV.out, rfl⟩

end Go.Proofs.Qxb6600620a.Num
