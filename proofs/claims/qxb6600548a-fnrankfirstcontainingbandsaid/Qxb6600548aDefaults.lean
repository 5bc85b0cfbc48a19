import Derived.Test.Qxb6600548aRows
import Derived.WalkKit
import Derived.ProofKit
import Derived.OpenShut
import Derived.ShutString
import Derived.ChangeOld
import Derived.Below
import Derived.WalkSpells
namespace Go.Proofs.Qxb6600548a
open Go.ChangeShapes Go.WideShapes Go.ChangeAt Go.RowKit
set_option linter.unusedVariables false

theorem info28 : (Try.prog.info? 28).map (fun i => (i.zero, i.size, i.bytes)) = some (some (.agg #[.int .i64 0, .int .i64 0]), 2, 16) := by kernel_rfl

/-- The cells of the first k default bands. -/
def bandCells : Nat → List Value
  | 0 => []
  | k + 1 => bandCells k ++ [.int .i64 (500 * (k : Int)), .int .i64 (500 * (k : Int) + 499)]

theorem bandCells_length (k : Nat) : (bandCells k).length = k * 2 := by
  induction k with
  | zero => rfl
  | succ k ih => simp [bandCells, ih]; omega

theorem owns_shape {w : World} {base : Nat} {e : TypeId} {size : Nat} {v : Value} {n : Nat} {xs : List Value} (h : w.ownsRow base e size v n xs) (hn : 0 < n) :
    ∃ g cap, v = .slice (some ⟨g, 0, none⟩) n cap ∧ base ≤ g ∧ g < w.heap.size := by
  rcases h.2 with ⟨_, h0⟩ | ⟨g, cap, cur, hv, hg, hh, _⟩
  · omega
  · exact ⟨g, cap, hv, hg, (Array.getElem?_eq_some_iff.1 hh).1⟩

set_option maxHeartbeats 400000 in
set_option maxRecDepth 100000 in
theorem defaultRanks_any (w : World) :
    Calls Try.prog 13 #[] w fun e w' => ∃ g cap, e = .returned (.slice (some ⟨g, 0, none⟩) 8 cap) ∧ w.heap.size ≤ g ∧
      w'.ownsRow w.heap.size 28 2 (.slice (some ⟨g, 0, none⟩) 8 cap) 8 ((bandCells 8).set 15 (.int .i64 4000)) ∧ Below w.heap.size w w' := by
  obtain ⟨i0, hi, hz0, hz1, hz2⟩ := info_parts info28
  go_enter Try.func13, Try.ntmps13
  go_wp2
  go_loopw [1, 2] (fun v i wr => ∃ k : Nat, k ≤ 8 ∧ i = .int .i64 (500 * (k : Int)) ∧ wr.ownsRow w.heap.size 28 2 v k (bandCells k) ∧ Below w.heap.size w wr)
    (fun _ i _ => 4000 - (intOf i).toNat)
  case atStart => exact ⟨0, Nat.zero_le _, rfl, World.ownsRow_nil _ _ _ _, Below.refl _ _⟩
  case round =>
    obtain ⟨k, hk, rfl, hown, hnx⟩ := hrel
    have hsz := hnx.size
    by_cases hlt : k < 8
    · go_wp2_with (at_builtin; refine wpList_append_own _ rfl _ _ 25 rfl w.heap.size 28 i0 (.agg #[.int .i64 0, .int .i64 0]) 2 16 Try.underlying25 hi hz0 hz1 hz2 rfl (by decide) _ _ _ rfl (hown.alloc _) ⟨wr.heap.size, 0, none⟩ 1 1 [.int .i64 (500 * (k : Int)), .int .i64 (500 * (k : Int) + 499)] rfl rfl ?c1 ?c2 ?c3 ?c4 ?c5 ?_)
      case c1 =>
        intro j u hj
        match j, hj with
        | 0, hj => simp at hj; subst hj; simp [Addr.add]
        | 1, hj => simp at hj; subst hj; simp [Addr.add]; omega
      case c2 => intro u hu; simp at hu; rcases hu with rfl | rfl <;> rfl
      case c3 => unfold maxLen; omega
      case c4 => omega
      case c5 => simp; omega
      · intro v' w1 hown' hgrow _
        have hb1 : Below w.heap.size w w1 := (hnx.alloc hsz _).grown hgrow (by simp; omega) (fun q hq => (hown.lt q hq).1)
        clear hgrow hown
        go_wp2
        go_roundw
        case rel => exact ⟨k + 1, by omega, by go_num, hown', hb1⟩
        case measure => simp [intOf]; omega
    · have hk8 : k = 8 := by omega
      subst hk8
      obtain ⟨g, cap, rfl, hg, hgs⟩ := owns_shape hown (by decide)
      have hc15 := hown.cellAt 15 (by decide)
      have hf15 := hown.frozenAt 15
      simp [bandCells] at hc15
      have hst := (hown.stored 15 (.int .i64 4000)).1
      have HST : Hid _ := hst
      clear hst hown
      go_wp2
      go_ret
      exact ⟨g, cap, rfl, hg, HST.out, hnx.setCell hg _⟩

/-- What DefaultRanks leaves, cell by cell: sixteen cells in a new block. -/
theorem defaultRanks_cells (w : World) :
    Calls Try.prog 13 #[] w fun e w' => ∃ g cap, e = .returned (.slice (some ⟨g, 0, none⟩) 8 cap) ∧ w.heap.size ≤ g ∧ g < w'.heap.size ∧
      (∀ j, j < 16 → w'.cell? ⟨g, j, none⟩ = ((bandCells 8).set 15 (.int .i64 4000))[j]?) ∧ (∀ j, w'.frozen? ⟨g, j, none⟩ = false) ∧ Below w.heap.size w w' := by
  refine (defaultRanks_any w).mono ?_
  rintro e w' ⟨g, cap, rfl, hg, hown, hb⟩
  obtain ⟨g', cap', hv, _, hgs⟩ := owns_shape hown (by decide)
  simp only [Value.slice.injEq, Option.some.injEq, Addr.mk.injEq, and_true, true_and] at hv
  obtain ⟨rfl, rfl⟩ := hv
  exact ⟨g, cap, rfl, hg, hgs, fun j hj => hown.cellAt j hj, fun j => hown.frozenAt j, hb⟩

end Go.Proofs.Qxb6600548a
