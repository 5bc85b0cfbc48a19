import Derived.Test.Qxb6600620aDfaStep
namespace Go.Proofs.Qxb6600620a.Num
open Go.ChangeShapes Go.WideShapes Go.ChangeAt Go.RowKit
set_option linter.unusedVariables false

theorem step_any (st c : Int) (w : World) (h0 : 0 ≤ st) (h8 : st ≤ 8) : Calls Try.prog 18 #[.int .i64 st, .int .u8 c] w fun e w' => e = .returned (.int .i64 (nst st c)) ∧ w' = w := by
  rcases (show st = 0 ∨ st = 1 ∨ st = 2 ∨ st = 3 ∨ st = 4 ∨ st = 5 ∨ st = 6 ∨ st = 7 ∨ st = 8 by omega) with rfl | rfl | rfl | rfl | rfl | rfl | rfl | rfl | rfl
  · exact step0 c w
  · exact step1 c w
  · exact step2 c w
  · exact step3 c w
  · exact step4 c w
  · exact step5 c w
  · exact step6 c w
  · exact step7 c w
  · exact step8 c w

theorem nst_bd (st c : Int) : nst st c = -1 ∨ (0 ≤ nst st c ∧ nst st c ≤ 8) := by
  unfold nst
  repeat' (first | (split) | (exact .inl rfl) | (exact .inr (by decide)))

/-- The accepting states. -/
def accB (st : Int) : Bool := (st == 2) || (st == 3) || (st == 5) || (st == 8)

theorem acc_any (st : Int) (w : World) : Calls Try.prog 19 #[.int .i64 st] w fun e w' => e = .returned (.bool (accB st)) ∧ w' = w := by
  unfold accB
  cases h2 : (st == 2)
  rotate_left
  · go_enter Try.func19, Try.ntmps19
    go_wp2
    go_ret
    exact ⟨rfl, rfl⟩
  cases h3 : (st == 3)
  rotate_left
  · go_enter Try.func19, Try.ntmps19
    go_wp2
    go_ret
    exact ⟨rfl, rfl⟩
  cases h5 : (st == 5)
  rotate_left
  · go_enter Try.func19, Try.ntmps19
    go_wp2
    go_ret
    exact ⟨rfl, rfl⟩
  go_enter Try.func19, Try.ntmps19
  go_wp2
  go_ret
  exact ⟨rfl, rfl⟩

theorem dfin_yes {st : Int} {k : Nat} (h : accB st = true) : dfin st k = k := by
  unfold dfin
  rw [if_pos]
  unfold accB at h
  simp only [Bool.or_eq_true, beq_iff_eq] at h
  omega
theorem dfin_no {st : Int} {k : Nat} (h : accB st = false) : dfin st k = -1 := by
  unfold dfin
  rw [if_neg]
  unfold accB at h
  simp only [Bool.or_eq_false_iff, beq_eq_false_iff_ne] at h
  omega

set_option maxHeartbeats 1000000 in
set_option maxRecDepth 100000 in
theorem dfa_any (g L cap : Nat) (t : Nat → Int) (i : Nat) (w : World) (hs : Seg w g L t) (hi : i ≤ L) :
    Calls Try.prog 10 #[.slice (some ⟨g, 0, none⟩) L cap, .int .i64 i] w fun e w' => e = .returned (.int .i64 (dfa t L 0 i)) ∧ w' = w := by
  have hL := hs.len
  have HS := hid hs
  clear hs
  go_enter Try.func10, Try.ntmps10
  go_wp2_with fail
  go_loop [5, 6] (fun st kk => ∃ (S : Int) (k : Nat), st = .int .i64 S ∧ kk = .int .i64 k ∧ (0 ≤ S ∧ S ≤ 8) ∧ k ≤ L ∧ dfa t L S k = dfa t L 0 i) (fun _ kk => L - (intOf kk).toNat)
  case atStart => exact ⟨0, i, rfl, rfl, by omega, hi, rfl⟩
  case round =>
    obtain ⟨S, k, rfl, rfl, hS, hk, hdf⟩ := hrel
    have HDF := hid hdf
    clear hdf
    by_cases hlt : k < L
    · have hc := HS.out.cell k hlt
      have hbd := nst_bd S (t k)
      generalize eN : nst S (t k) = N at *
      have EN := hid eN
      clear eN
      cases hn : (N == -1)
      · have hN : 0 ≤ N ∧ N ≤ 8 := by
          rw [beq_eq_false_iff_ne] at hn
          rcases hbd with h | h
          · exact absurd h hn
          · exact h
        have HN := hid (show N ≠ -1 by omega)
        clear hbd
        go_wp2_with (go_at_call 18; refine (step_any _ _ _ hS.1 hS.2).mono ?_; rintro e w' ⟨rfl, rfl⟩; rw [EN.out])
        go_round
        case rel => exact ⟨N, k + 1, rfl, by go_num, hN, by omega, by rw [← HDF.out, dfa_go HS.out.past EN.out HN.out]⟩
        case measure => simp [intOf]; omega
      · have HN := hid (show nst S (t k) = -1 by rw [EN.out]; simpa using hn)
        clear hbd
        cases ha : accB S
        · have HA := hid ha
          go_wp2_with (first | (go_at_call 18; refine (step_any _ _ _ hS.1 hS.2).mono ?_; rintro e w' ⟨rfl, rfl⟩; rw [EN.out]) | (go_at_call 19; refine (acc_any _ _).mono ?_; rintro e w' ⟨rfl, rfl⟩))
          go_ret
          exact ⟨ret_int (by rw [← HDF.out, dfa_stop HS.out.past HN.out, dfin_no HA.out]), rfl⟩
        · have HA := hid ha
          go_wp2_with (first | (go_at_call 18; refine (step_any _ _ _ hS.1 hS.2).mono ?_; rintro e w' ⟨rfl, rfl⟩; rw [EN.out]) | (go_at_call 19; refine (acc_any _ _).mono ?_; rintro e w' ⟨rfl, rfl⟩))
          go_ret
          exact ⟨ret_int (by rw [← HDF.out, dfa_stop HS.out.past HN.out, dfin_yes HA.out]), rfl⟩
    · have HN := hid (show nst S (t k) = -1 by rw [HS.out.past k (by omega)]; exact nst_zero S)
      cases ha : accB S
      · have HA := hid ha
        go_wp2_with (go_at_call 19; refine (acc_any _ _).mono ?_; rintro e w' ⟨rfl, rfl⟩)
        go_ret
        exact ⟨ret_int (by rw [← HDF.out, dfa_stop HS.out.past HN.out, dfin_no HA.out]), rfl⟩
      · have HA := hid ha
        go_wp2_with (go_at_call 19; refine (acc_any _ _).mono ?_; rintro e w' ⟨rfl, rfl⟩)
        go_ret
        exact ⟨ret_int (by rw [← HDF.out, dfa_stop HS.out.past HN.out, dfin_yes HA.out]), rfl⟩
end Go.Proofs.Qxb6600620a.Num
