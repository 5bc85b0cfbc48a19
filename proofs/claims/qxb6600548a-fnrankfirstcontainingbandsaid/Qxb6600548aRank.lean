import Derived.Test.Qxb6600548aDefaults
namespace Go.Proofs.Qxb6600548a
open Go.ChangeShapes Go.WideShapes Go.ChangeAt Go.RowKit
set_option linter.unusedVariables false

theorem contains_yes (lo hi r : Int) (w : World) (h1 : lo ≤ r) (h2 : r ≤ hi) :
    Calls Try.prog 15 #[.agg #[.int .i64 lo, .int .i64 hi], .int .i64 r] w fun e w' => e = .returned (.bool true) ∧ w' = w.alloc (.cells #[.int .i64 lo, .int .i64 hi] 28) := by
  go_enter Try.func15, Try.ntmps15
  go_wp2
  go_ret
  exact ⟨rfl, rfl⟩

theorem contains_no (lo hi r : Int) (w : World) (h : ¬ (lo ≤ r ∧ r ≤ hi)) :
    Calls Try.prog 15 #[.agg #[.int .i64 lo, .int .i64 hi], .int .i64 r] w fun e w' => e = .returned (.bool false) ∧ w' = w.alloc (.cells #[.int .i64 lo, .int .i64 hi] 28) := by
  by_cases h1 : lo ≤ r
  · have h2 : ¬ r ≤ hi := fun h2 => h ⟨h1, h2⟩
    clear h
    go_enter Try.func15, Try.ntmps15
    go_wp2
    go_ret
    exact ⟨rfl, rfl⟩
  · clear h
    go_enter Try.func15, Try.ntmps15
    go_wp2
    go_ret
    exact ⟨rfl, rfl⟩

/-- Band k of the table (its bounds mn k, mx k) holds the rating r. -/
def Holds (mn mx : Nat → Int) (r : Int) (k : Nat) : Prop := mn k ≤ r ∧ r ≤ mx k

/-- What Rank answers: no band of the first n holds r; or the first that does. -/
def RankSpec (mn mx : Nat → Int) (n : Nat) (r lo hi : Int) (ok : Bool) : Prop :=
  (ok = false ∧ lo = 0 ∧ hi = 0 ∧ ∀ k, k < n → ¬ Holds mn mx r k) ∨
  (ok = true ∧ ∃ k, k < n ∧ Holds mn mx r k ∧ lo = mn k ∧ hi = mx k ∧ ∀ j, j < k → ¬ Holds mn mx r j)

theorem no_succ {mn mx : Nat → Int} {r : Int} {k : Nat} (h : ∀ j, j < k → ¬ Holds mn mx r j) (hk : ¬ Holds mn mx r k) : ∀ j, j < k + 1 → ¬ Holds mn mx r j := by
  intro j hj
  by_cases e : j = k
  · subst e; exact hk
  · exact h j (by omega)

set_option maxHeartbeats 400000 in
set_option maxRecDepth 100000 in
theorem rank_any (g n cap : Nat) (mn mx : Nat → Int) (r : Int) (w : World) (hn : n ≤ 1000000) (hg : g < w.heap.size)
    (h0 : ∀ k, k < n → w.cell? ⟨g, k * 2, none⟩ = some (.int .i64 (mn k))) (h1 : ∀ k, k < n → w.cell? ⟨g, k * 2 + 1, none⟩ = some (.int .i64 (mx k))) :
    Calls Try.prog 11 #[.slice (some ⟨g, 0, none⟩) n cap, .int .i64 r] w fun e w' => ∃ lo hi ok, e = .returned (.tuple #[.agg #[.int .i64 lo, .int .i64 hi], .bool ok]) ∧
      RankSpec mn mx n r lo hi ok ∧ Below w.heap.size w w' := by
  have hb0 : Below w.heap.size w (w.alloc (.cells #[.int .i64 0, .int .i64 0] 28)) := (Below.refl _ _).alloc (Nat.le_refl _) _
  go_enter Try.func11, Try.ntmps11
  go_wp2
  go_loopw [10] (fun i wr => ∃ k : Nat, k ≤ n ∧ i = .int .i64 k ∧ (∀ j, j < k → ¬ Holds mn mx r j) ∧ Below (w.heap.size + 1) (w.alloc (.cells #[.int .i64 0, .int .i64 0] 28)) wr)
    (fun i _ => n - (intOf i).toNat)
  case atStart => exact ⟨0, Nat.zero_le _, rfl, fun j hj => absurd hj (Nat.not_lt_zero _), Below.refl _ _⟩
  case round =>
    obtain ⟨k, hk, rfl, hno, hb⟩ := hrel
    have hsz := hb.size
    simp at hsz
    have hlts : w.heap.size < wr.heap.size := by omega
    have r0 : wr.cell? ⟨w.heap.size, 0, none⟩ = some (.int .i64 0) := by rw [hb.cell (by simp)]; simp
    have r1 : wr.cell? ⟨w.heap.size, 1, none⟩ = some (.int .i64 0) := by rw [hb.cell (by simp)]; simp
    have rf0 : wr.frozen? ⟨w.heap.size, 0, none⟩ = false := by rw [hb.frozen (by simp)]; simp
    have rf1 : wr.frozen? ⟨w.heap.size, 1, none⟩ = false := by rw [hb.frozen (by simp)]; simp
    by_cases hlt : k < n
    · have c0 : wr.cell? ⟨g, k * 2, none⟩ = some (.int .i64 (mn k)) := by rw [hb.cell (by simp; omega), World.cell?_alloc_past _ _ _ hg]; exact h0 k hlt
      have c1 : wr.cell? ⟨g, k * 2 + 1, none⟩ = some (.int .i64 (mx k)) := by rw [hb.cell (by simp; omega), World.cell?_alloc_past _ _ _ hg]; exact h1 k hlt
      have HH0 : Hid _ := h0
      have HH1 : Hid _ := h1
      clear h0 h1
      by_cases hh : Holds mn mx r k
      · obtain ⟨q1, q2⟩ := hh
        go_wp2_with (go_at_call 15; refine (contains_yes _ _ _ _ q1 q2).mono ?_; rintro e w' ⟨rfl, rfl⟩)
        refine bodyPost_ret (v := .tuple #[.agg #[.int .i64 (mn k), .int .i64 (mx k)], .bool true]) (by simp [results, Try.results11, go_sem, hlts, r0, r1]) rfl ⟨_, _, _, rfl, .inr ⟨rfl, k, hlt, ⟨q1, q2⟩, rfl, rfl, hno⟩, ?_⟩
        exact hb0.trans ((((hb.mono (Nat.le_succ _)).setCell (Nat.le_refl _) _).setCell (Nat.le_refl _) _).alloc (by simp; omega) _ |>.alloc (by simp; omega) _)
      · go_wp2_with (go_at_call 15; refine (contains_no _ _ _ _ hh).mono ?_; rintro e w' ⟨rfl, rfl⟩)
        go_roundw
        case rel => exact ⟨k + 1, by omega, by go_num, no_succ hno hh, (hb.alloc (by omega) _).alloc (by simp; omega) _⟩
        case measure => simp [intOf]; omega
    · have hkn : k = n := by omega
      subst hkn
      go_wp2
      refine bodyPost_ret (v := .tuple #[.agg #[.int .i64 0, .int .i64 0], .bool false]) (by simp [results, Try.results11, go_sem, r0, r1]) rfl ⟨_, _, _, rfl, .inl ⟨rfl, rfl, rfl, hno⟩, ?_⟩
      exact hb0.trans (((hb.mono (Nat.le_succ _)).setCell (Nat.le_refl _) _).setCell (Nat.le_refl _) _)
end Go.Proofs.Qxb6600548a
