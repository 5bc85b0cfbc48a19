import Derived.Test.Qxb6600548aTableWalk
import Derived.Test.Qxb6600548aRank
namespace Go.Proofs.Qxb6600548a
open Go.ChangeShapes Go.WideShapes Go.ChangeAt Go.RowKit
set_option linter.unusedVariables false

/-- The least rating of default band k. -/
def bandLo (k : Nat) : Int := 500 * (k : Int)

theorem closed_out {r lo hi : Int} {ok : Bool} (h : r < 0 ∨ 4000 < r) (hs : RankSpec bandLo bandHi 8 r lo hi ok) : ok = false ∧ lo = 0 ∧ hi = 0 := by
  rcases hs with ⟨a, b, c, _⟩ | ⟨_, k, hk, ⟨h1, h2⟩, _⟩
  · exact ⟨a, b, c⟩
  · unfold bandLo at h1
    unfold bandHi at h2
    split at h2 <;> omega

/-- The index of the default band that holds a rating in [0, 4000]. -/
def bandIx (r : Int) : Int := if 7 < r / 500 then 7 else r / 500

theorem closed_in {r lo hi : Int} {ok : Bool} (h0 : 0 ≤ r) (h1 : r ≤ 4000) (hs : RankSpec bandLo bandHi 8 r lo hi ok) :
    ok = true ∧ lo = 500 * bandIx r ∧ hi = if bandIx r = 7 then 4000 else 500 * bandIx r + 499 := by
  have hx : (0 : Int) ≤ bandIx r ∧ bandIx r ≤ 7 := by unfold bandIx; split <;> omega
  have hold : Holds bandLo bandHi r (bandIx r).toNat := by
    unfold Holds bandLo bandHi bandIx
    split <;> split <;> omega
  rcases hs with ⟨_, _, _, hno⟩ | ⟨ok1, k, hk, ⟨a1, a2⟩, rfl, rfl, _⟩
  · exact absurd hold (hno _ (by omega))
  · obtain ⟨b1, b2⟩ := hold
    have e : bandIx r = k := by
      unfold bandLo at a1 b1
      unfold bandHi at a2 b2
      unfold bandIx at *
      split at a2 <;> split at b2 <;> omega
    refine ⟨ok1, by rw [e]; rfl, ?_⟩
    rw [e]
    unfold bandHi
    split <;> split <;> omega

set_option maxHeartbeats 400000 in
set_option maxRecDepth 100000 in
theorem closed_walk (r : Int) (wf : (Lit.int .i64 r).wf = true) (w : World) :
    Calls Try.prog 5 #[.int .i64 r] w fun e w' => e = .returned (.bool true) ∧ Below w.heap.size w w' := by
  go_enter Try.func5, Try.ntmps5
  go_wp2_with fail
  refine (defaultRanks_cells _).mono ?_
  rintro e w1 ⟨g1, cap1, rfl, hg1, hgs1, hc1, hf1, hb1⟩
  have HC : Hid _ := hc1
  clear hc1 hf1
  go_wp2_with fail
  refine (rank_any g1 8 cap1 bandLo bandHi r _ (by decide) hgs1 (fun k hk => (band_cells HC.out k hk).1) (fun k hk => (band_cells HC.out k hk).2)).mono ?_
  rintro e w2 ⟨lo, hi, ok, rfl, hs, hb2⟩
  have B : Below w.heap.size w w2 := hb1.trans (hb2.mono hb1.size)
  have hz : w.heap.size ≤ w2.heap.size := B.size
  have HB : Hid _ := B
  clear hb1 hb2 HC B
  by_cases hr : r < 0 ∨ 4000 < r
  · obtain ⟨rfl, rfl, rfl⟩ := closed_out hr hs
    clear hs
    rcases hr with hr | hr
    all_goals
      go_wp2
      go_ret
      exact ⟨rfl, HB.out.alloc hz _⟩
  · have h0 : 0 ≤ r := by omega
    have h1 : r ≤ 4000 := by omega
    clear hr
    obtain ⟨rfl, hlo, hhi⟩ := closed_in h0 h1 hs
    clear hs
    by_cases h7 : 7 < r / 500
    · have e7 : bandIx r = 7 := by unfold bandIx; rw [if_pos h7]
      rw [e7] at hlo hhi
      simp at hlo hhi
      subst hlo hhi
      go_wp2
      go_ret
      exact ⟨rfl, HB.out.alloc hz _⟩
    · have e7 : bandIx r = r / 500 := by unfold bandIx; rw [if_neg h7]
      rw [e7] at hlo hhi
      by_cases h7' : r / 500 = 7
      · rw [h7'] at hlo hhi
        simp at hlo hhi
        subst hlo hhi
        have h8 : 7 ≤ r / 500 := by omega
        clear e7 h7'
        go_wp2
        go_ret
        exact ⟨rfl, HB.out.alloc hz _⟩
      · rw [if_neg h7'] at hhi
        subst hlo hhi
        clear e7
        go_wp2
        go_ret
        exact ⟨rfl, HB.out.alloc hz _⟩
end Go.Proofs.Qxb6600548a
