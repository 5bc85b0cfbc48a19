import Derived.Test.Qxb6600548aClone
import Derived.RegionTactic
import Derived.ChangeAlike
namespace Go.Proofs.Qxb6600548a
open Go.ChangeShapes Go.WideShapes Go.ChangeAt Go.RowKit
set_option linter.unusedVariables false

/-- One store of a pair into a row of pairs that is being filled. -/
theorem fill2_step {f0 f1 : Nat → Int} {xs : List Value} {k : Nat} (hk : k * 2 + 1 < xs.length) (h : ∀ j, j < k → xs[j * 2]? = some (.int .i64 (f0 j)) ∧ xs[j * 2 + 1]? = some (.int .i64 (f1 j))) :
    ∀ j, j < k + 1 → ((xs.set (k * 2) (.int .i64 (f0 k))).set (k * 2 + 1) (.int .i64 (f1 k)))[j * 2]? = some (.int .i64 (f0 j)) ∧ ((xs.set (k * 2) (.int .i64 (f0 k))).set (k * 2 + 1) (.int .i64 (f1 k)))[j * 2 + 1]? = some (.int .i64 (f1 j)) := by
  intro j hj
  rw [List.getElem?_set, List.getElem?_set, List.getElem?_set, List.getElem?_set]
  by_cases e : k = j
  · subst e
    have h1 : k * 2 < xs.length := by omega
    have h2 : ¬ k * 2 + 1 = k * 2 := by omega
    simp [hk, h1]
  · have h1 : ¬ k * 2 + 1 = j * 2 := by omega
    have h2 : ¬ k * 2 = j * 2 := by omega
    have h3 : ¬ k * 2 + 1 = j * 2 + 1 := by omega
    have h4 : ¬ k * 2 = j * 2 + 1 := by omega
    rw [if_neg h1, if_neg h2, if_neg h3, if_neg h4]
    exact h j (by omega)

theorem own_lt {w : World} {base g n cap : Nat} {e : TypeId} {size : Nat} {xs : List Value} (h : w.ownsRow base e size (.slice (some ⟨g, 0, none⟩) n cap) n xs) : g < w.heap.size := (h.lt g rfl).2

set_option maxHeartbeats 1000000 in
set_option maxRecDepth 100000 in
theorem build_any (A0 A1 : Option Addr) (g0 g1 n0 c0 n1 c1 n : Nat) (f0 f1 : Nat → Int) (w : World) (hn0 : n0 ≤ 1048576) (hn1 : n1 ≤ 1048576)
    (hmin : (n1 < n0 ∧ n = n1) ∨ (n0 ≤ n1 ∧ n = n0)) (hx : 0 < n → A0 = some ⟨g0, 0, none⟩ ∧ A1 = some ⟨g1, 0, none⟩ ∧ g0 < w.heap.size ∧ g1 < w.heap.size)
    (hc0 : ∀ k, k < n → w.cell? ⟨g0, k, none⟩ = some (.int .i64 (f0 k))) (hc1 : ∀ k, k < n → w.cell? ⟨g1, k, none⟩ = some (.int .i64 (f1 k))) :
    Calls Try.prog 10 #[.slice A0 n0 c0, .slice A1 n1 c1] w fun e w' => ∃ g, e = .returned (.slice (some ⟨g, 0, none⟩) n n) ∧ w.heap.size ≤ g ∧ g < w'.heap.size ∧
      (∀ k, k < n → w'.cell? ⟨g, k * 2, none⟩ = some (.int .i64 (f0 k))) ∧ (∀ k, k < n → w'.cell? ⟨g, k * 2 + 1, none⟩ = some (.int .i64 (f1 k))) ∧ Below w.heap.size w w' := by
  obtain ⟨i0, hi, hz0, hz1, hz2⟩ := info_parts info28
  have HX := hid hx
  have HC0 := hid hc0
  have HC1 := hid hc1
  clear hx hc0 hc1
  rcases hmin with ⟨hmin, rfl⟩ | ⟨hmin, rfl⟩
  all_goals
    go_enter Try.func10, Try.ntmps10
    go_wp2_with (at_make; refine wpList_make_full _ rfl _ _ 25 rfl w.heap.size 28 i0 (.agg #[.int .i64 0, .int .i64 0]) 2 Try.underlying25 hi hz0 hz1 _ _ _ _ n rfl rfl rfl rfl (by rw [hz2]; omega) (by unfold maxLen; omega) (Nat.le_refl _) ?_)
    intro w1 hown hgrow
    have hbb : Below w.heap.size w w1 := (Below.refl _ _).grown hgrow (Nat.le_refl _) (fun q hq => by cases hq)
    clear hgrow
    go_wp2
    go_loopw [7] (fun i wr => ∃ (k : Nat) (xs : List Value), k ≤ n ∧ i = .int .i64 k ∧ wr.ownsRow w.heap.size 28 2 (.slice (some ⟨w.heap.size, 0, none⟩) n n) n xs ∧
        (∀ j, j < k → xs[j * 2]? = some (.int .i64 (f0 j)) ∧ xs[j * 2 + 1]? = some (.int .i64 (f1 j))) ∧ Below w.heap.size w wr)
      (fun i _ => n - (intOf i).toNat)
    case atStart => exact ⟨0, _, Nat.zero_le _, rfl, hown, fun j hj => absurd hj (Nat.not_lt_zero _), hbb⟩
    case round =>
      obtain ⟨k, xs, hk, rfl, hownr, hxs, hb⟩ := hrel
      have hlen : xs.length = n * 2 := hownr.1
      by_cases hlt : k < n
      · obtain ⟨rfl, rfl, hb0, hb1⟩ := HX.out (by omega)
        have c0 : wr.cell? ⟨g0, k, none⟩ = some (.int .i64 (f0 k)) := (hb.cell (by exact hb0)).trans (HC0.out k hlt)
        have c1 : wr.cell? ⟨g1, k, none⟩ = some (.int .i64 (f1 k)) := (hb.cell (by exact hb1)).trans (HC1.out k hlt)
        obtain ⟨d, d0⟩ : ∃ d, wr.cell? ⟨w.heap.size, k * 2, none⟩ = some d := ⟨_, by rw [hownr.cellAt (k * 2) (by omega)]; exact List.getElem?_eq_getElem (by omega)⟩
        obtain ⟨d', d1⟩ : ∃ d', wr.cell? ⟨w.heap.size, k * 2 + 1, none⟩ = some d' := ⟨_, by rw [hownr.cellAt (k * 2 + 1) (by omega)]; exact List.getElem?_eq_getElem (by omega)⟩
        have fr0 := hownr.frozenAt (k * 2)
        have fr1 := hownr.frozenAt (k * 2 + 1)
        obtain ⟨hst, _⟩ := hownr.stored (k * 2) (.int .i64 (f0 k))
        obtain ⟨hst2, _⟩ := hst.stored (k * 2 + 1) (.int .i64 (f1 k))
        have HS := hid hst2
        have HXS := hid (fill2_step (by omega) hxs)
        clear hst hst2 hxs hown hownr hbb hlen
        have hkI : (k : Int) < (n : Int) := by omega
        go_wp2
        go_region
        go_wp2
        go_roundw
        case rel => exact ⟨k + 1, _, by omega, by go_num, HS.out.drew, HXS.out, ((hb.setCell (Nat.le_refl _) _).setCell (Nat.le_refl _) _).drew⟩
        case measure => simp [intOf]; omega
      · have hkn : k = n := by omega
        subst hkn
        have HO := hid hownr
        have HXS := hid hxs
        clear hown hbb hownr hxs hlen
        go_wp2
        go_ret
        have hgs := own_lt HO.out
        exact ⟨w.heap.size, rfl, Nat.le_refl _, hgs, fun j hj => (HO.out.cellAt (j * 2) (by omega)).trans (HXS.out j hj).1, fun j hj => (HO.out.cellAt (j * 2 + 1) (by omega)).trans (HXS.out j hj).2, hb⟩
end Go.Proofs.Qxb6600548a
