import Derived.Test.Qxb6600548aDefaults
namespace Go.Proofs.Qxb6600548a
open Go.ChangeShapes Go.WideShapes Go.ChangeAt Go.RowKit
set_option linter.unusedVariables false

/-- The greatest rating of default band k. -/
def bandHi (k : Nat) : Int := if k = 7 then 4000 else 500 * (k : Int) + 499

theorem bandBounds_any (k : Nat) (hk : k < 8) (w : World) :
    Calls Try.prog 14 #[.int .i64 k] w fun e w' => e = .returned (.tuple #[.int .i64 (500 * (k : Int)), .int .i64 (bandHi k)]) ∧ w' = w := by
  match k, hk with
  | 0, _ | 1, _ | 2, _ | 3, _ | 4, _ | 5, _ | 6, _ | 7, _ =>
    go_enter Try.func14, Try.ntmps14
    go_wp2
    go_ret2
    exact ⟨rfl, rfl⟩

theorem band_cells {w1 : World} {g : Nat} (hc : ∀ j, j < 16 → w1.cell? ⟨g, j, none⟩ = ((bandCells 8).set 15 (.int .i64 4000))[j]?) (k : Nat) (hk : k < 8) :
    w1.cell? ⟨g, k * 2, none⟩ = some (.int .i64 (500 * (k : Int))) ∧ w1.cell? ⟨g, k * 2 + 1, none⟩ = some (.int .i64 (bandHi k)) := by
  rw [hc (k * 2) (by omega), hc (k * 2 + 1) (by omega)]
  match k, hk with
  | 0, _ | 1, _ | 2, _ | 3, _ | 4, _ | 5, _ | 6, _ | 7, _ => exact ⟨rfl, rfl⟩

set_option maxHeartbeats 400000 in
set_option maxRecDepth 100000 in
theorem table_walk (w : World) :
    Calls Try.prog 6 #[] w fun e w' => e = .returned (.bool true) ∧ Below w.heap.size w w' := by
  go_enter Try.func6, Try.ntmps6
  go_wp2_with fail
  refine (defaultRanks_cells _).mono ?_
  rintro e w1 ⟨g1, cap1, rfl, hg1, hgs1, hc1, hf1, hb1⟩
  have HC : Hid _ := hc1
  clear hc1 hf1
  go_wp2_with fail
  go_loop [2] (fun i => ∃ k : Nat, k ≤ 8 ∧ i = .int .i64 k) (fun i => 8 - (intOf i).toNat)
  case atStart => exact ⟨0, Nat.zero_le _, rfl⟩
  case round =>
    obtain ⟨k, hk, rfl⟩ := hrel
    by_cases hlt : k < 8
    · obtain ⟨c0, c1⟩ := band_cells HC.out k hlt
      go_wp2_with (go_at_call 14; refine (bandBounds_any k hlt _).mono ?_; rintro e w' ⟨rfl, rfl⟩)
      go_round
      case rel => exact ⟨k + 1, by omega, by go_num⟩
      case measure => simp [intOf]; omega
    · go_wp2
      go_ret
      exact ⟨rfl, hb1⟩
end Go.Proofs.Qxb6600548a
