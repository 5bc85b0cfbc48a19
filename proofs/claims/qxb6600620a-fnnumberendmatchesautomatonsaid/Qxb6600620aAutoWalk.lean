import Derived.Test.Qxb6600620aDfaWalk
namespace Go.Proofs.Qxb6600620a.Num
open Go.ChangeShapes Go.WideShapes Go.ChangeAt Go.RowKit
set_option linter.unusedVariables false

theorem zz7_yes (a0 : Option Addr) (n0 c0 : Nat) (r : Int) (w : World) (h : n0 ≤ 1048576) :
    Calls Try.prog 7 #[.slice a0 n0 c0, .int .i64 r] w fun e w' => e = .returned (.bool true) ∧ w' = w := by
  go_enter Try.func7, Try.ntmps7
  go_wp2
  go_ret
  exact ⟨rfl, rfl⟩

theorem zz7_no (a0 : Option Addr) (n0 c0 : Nat) (r : Int) (w : World) (h : ¬ n0 ≤ 1048576) (h0 : n0 ≤ maxLen) :
    Calls Try.prog 7 #[.slice a0 n0 c0, .int .i64 r] w fun e w' => e = .returned (.bool false) ∧ w' = w := by
  unfold maxLen at h0
  go_enter Try.func7, Try.ntmps7
  go_wp2
  go_ret
  exact ⟨rfl, rfl⟩

/-- The text of the first n elements, 0 behind them. -/
def textOf (z : List Int) (n k : Nat) : Int := if k < n then z.getD k 0 else 0
theorem textOf_lt {z : List Int} {n k : Nat} (h : k < n) : textOf z n k = z.getD k 0 := by unfold textOf; rw [if_pos h]
theorem textOf_ge {z : List Int} {n k : Nat} (h : n ≤ k) : textOf z n k = 0 := by unfold textOf; rw [if_neg (by omega)]

set_option maxHeartbeats 1000000 in
set_option maxRecDepth 100000 in
theorem auto_core (a0 : Option Addr) (n0 c0 : Nat) (z0 : List Int) (t : Nat → Int) (e0 : ∀ k, k < n0 → z0.getD k 0 = t k) (ht : ∀ k, n0 ≤ k → t k = 0) (I : Nat) (w : World)
    (w0 : IsRow .u8 w a0 n0 c0 z0) (h0 : n0 ≤ 1048576) (hI : I < n0) :
    Calls Try.prog 3 #[.slice a0 n0 c0, .int .i64 I] w fun e w' => e = .returned (.bool true) ∧ Below w.heap.size w w' := by
  have T0 := hid e0
  have TT := hid ht
  clear e0 ht
  go_enter Try.func3, Try.ntmps3
  go_wp2_with fail
  refine (zz7_yes a0 n0 c0 I _ h0).mono ?_
  rintro e w ⟨rfl, rfl⟩
  go_wp2_with fail
  refine (clone_any a0 n0 c0 z0 (fun k => z0.getD k 0) (fun _ => rfl) _ w0 (by omega)).mono ?_
  rintro e w2 ⟨A0, d0, g0, rfl, hx0, hc0, hb2⟩
  obtain ⟨rfl, hd0, hg0⟩ := hx0 (by omega)
  obtain rfl : n0 = d0 := hd0.symm
  have hs : Seg w2 g0 n0 t := ⟨fun k hk => by rw [← T0.out k hk]; exact hc0 k hk, TT.out, by omega⟩
  have hE : Ends t (dEnd t n0) := dEnd_ok TT.out
  have HR := hid (dfa_ne TT.out hE I)
  have HS := hid hs
  have HE := hid hE
  have HB := hid hb2
  clear hs hE hb2 hc0 hx0 w0
  obtain ⟨r, hr⟩ : ∃ r, neAt t (dEnd t n0) I = r := ⟨_, rfl⟩
  have HRr := hid hr
  clear hr
  go_wp2_with fail
  refine (zznum_any g0 n0 _ t _ _ I r _ rfl HS.out HE.out hI HRr.out).mono ?_
  rintro e w2 ⟨rfl, rfl⟩
  go_wp2_with fail
  refine (dfa_any g0 n0 _ t I _ HS.out (by omega)).mono ?_
  rintro e w2 ⟨rfl, rfl⟩
  rw [HR.out, HRr.out]
  go_wp2
  go_ret
  exact ⟨rfl, HB.out⟩

set_option maxHeartbeats 1000000 in
set_option maxRecDepth 100000 in
theorem auto_walk (a0 : Option Addr) (len0 cap0 : Nat) (z0 : List Int) (a1 : Int) (w : World) (w0 : IsRow .u8 w a0 len0 cap0 z0) :
    Calls Try.prog 3 #[.slice a0 len0 cap0, .int .i64 a1] w fun e w' => e = .returned (.bool true) ∧ Below w.heap.size w w' := by
  have l0 := isRow_le w0
  by_cases hs : len0 ≤ 1048576
  · by_cases hi : 0 ≤ a1
    · obtain ⟨I, rfl⟩ := Int.eq_ofNat_of_zero_le hi
      by_cases hI : I < len0
      · exact auto_core a0 len0 cap0 z0 (textOf z0 len0) (fun k hk => (textOf_lt hk).symm) (fun k hk => textOf_ge hk) I w w0 hs hI
      · clear w0
        go_enter Try.func3, Try.ntmps3
        go_wp2_with (go_at_call 7; refine (zz7_yes a0 len0 cap0 _ _ hs).mono ?_; rintro e w' ⟨rfl, rfl⟩)
        go_ret
        exact ⟨rfl, Below.refl _ _⟩
    · clear w0
      go_enter Try.func3, Try.ntmps3
      go_wp2_with (go_at_call 7; refine (zz7_yes a0 len0 cap0 _ _ hs).mono ?_; rintro e w' ⟨rfl, rfl⟩)
      go_ret
      exact ⟨rfl, Below.refl _ _⟩
  · clear w0
    go_enter Try.func3, Try.ntmps3
    go_wp2_with (go_at_call 7; refine (zz7_no a0 len0 cap0 _ _ hs l0).mono ?_; rintro e w' ⟨rfl, rfl⟩)
    go_ret
    exact ⟨rfl, Below.refl _ _⟩
end Go.Proofs.Qxb6600620a.Num
