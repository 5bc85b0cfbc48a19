import Derived.Test.Qxb6600548aRank
import Derived.Test.Qxb6600548aBuild
import Derived.Deep.QuietTactic
import Derived.BigQuiet
import Derived.WalkSmall
namespace Go.Proofs.Qxb6600548a
open Go.ChangeShapes Go.WideShapes Go.ChangeAt Go.RowKit
set_option linter.unusedVariables false

theorem zz_yes (a0 a1 : Option Addr) (n0 c0 n1 c1 : Nat) (r : Int) (w : World) (h : n0 + n1 ≤ 1048576) :
    Calls Try.prog 8 #[.slice a0 n0 c0, .slice a1 n1 c1, .int .i64 r] w fun e w' => e = .returned (.bool true) ∧ w' = w := by
  go_enter Try.func8, Try.ntmps8
  go_wp2
  go_ret
  exact ⟨rfl, rfl⟩

theorem zz_no (a0 a1 : Option Addr) (n0 c0 n1 c1 : Nat) (r : Int) (w : World) (h : ¬ n0 + n1 ≤ 1048576) (h0 : n0 ≤ maxLen) (h1 : n1 ≤ maxLen) :
    Calls Try.prog 8 #[.slice a0 n0 c0, .slice a1 n1 c1, .int .i64 r] w fun e w' => e = .returned (.bool false) ∧ w' = w := by
  unfold maxLen at h0 h1
  by_cases k0 : n0 ≤ 1048576
  · by_cases k1 : n1 ≤ 1048576
    all_goals
      go_enter Try.func8, Try.ntmps8
      go_wp2
      go_ret
      exact ⟨rfl, rfl⟩
  · go_enter Try.func8, Try.ntmps8
    go_wp2
    go_ret
    exact ⟨rfl, rfl⟩

/-- What the backward scan has found when the bands from k on are behind it. -/
def Found (mn mx : Nat → Int) (n : Nat) (r : Int) (k : Nat) (F : Int) : Prop :=
  (F = -1 ∧ ∀ j, k ≤ j → j < n → ¬ Holds mn mx r j) ∨ ∃ f : Nat, F = f ∧ k ≤ f ∧ f < n ∧ Holds mn mx r f ∧ ∀ j, k ≤ j → j < f → ¬ Holds mn mx r j

theorem found_hit {mn mx : Nat → Int} {n k : Nat} {r F : Int} (h : Found mn mx n r (k + 1) F) (hk : k < n) (hh : Holds mn mx r k) : Found mn mx n r k k :=
  .inr ⟨k, rfl, Nat.le_refl _, hk, hh, fun j h1 h2 => by omega⟩

theorem found_miss {mn mx : Nat → Int} {n k : Nat} {r F : Int} (h : Found mn mx n r (k + 1) F) (hh : ¬ Holds mn mx r k) : Found mn mx n r k F := by
  have key : ∀ {m}, (∀ j, k + 1 ≤ j → j < m → ¬ Holds mn mx r j) → ∀ j, k ≤ j → j < m → ¬ Holds mn mx r j := by
    intro m hm j h1 h2
    by_cases e : j = k
    · subst e; exact hh
    · exact hm j (by omega) h2
  rcases h with ⟨hF, hno⟩ | ⟨f, hF, h1, h2, h3, h4⟩
  · exact .inl ⟨hF, key hno⟩
  · exact .inr ⟨f, hF, by omega, h2, h3, key h4⟩

theorem found_none {mn mx : Nat → Int} {n : Nat} {r lo hi F : Int} {ok : Bool} (h : Found mn mx n r 0 F) (hF : F < 0) (hs : RankSpec mn mx n r lo hi ok) : ok = false ∧ lo = 0 ∧ hi = 0 := by
  rcases h with ⟨_, hno⟩ | ⟨f, hF', _⟩
  · rcases hs with ⟨a, b, c, _⟩ | ⟨_, k, hk, hh, _⟩
    · exact ⟨a, b, c⟩
    · exact absurd hh (hno k (Nat.zero_le _) hk)
  · omega

theorem found_some {mn mx : Nat → Int} {n : Nat} {r lo hi F : Int} {ok : Bool} (h : Found mn mx n r 0 F) (hF : ¬ F < 0) (hs : RankSpec mn mx n r lo hi ok) :
    ∃ f : Nat, F = f ∧ f < n ∧ ok = true ∧ lo = mn f ∧ hi = mx f := by
  rcases h with ⟨hF', _⟩ | ⟨f, hF', _, hf, hh, hno⟩
  · omega
  · rcases hs with ⟨_, _, _, hn⟩ | ⟨a, k, hk, hh', rfl, rfl, hn⟩
    · exact absurd hh (hn f hf)
    · have e : k = f := by
        have h1 : ¬ k < f := fun hlt => hno k (Nat.zero_le _) hlt hh'
        have h2 : ¬ f < k := fun hlt => hn f hlt hh
        omega
      subst e
      exact ⟨k, hF', hf, a, rfl, rfl⟩

/-- Where the backward scan stands: its index is m, the bands behind m are scanned; or it is through. -/
def ScanAt (mn mx : Nat → Int) (n : Nat) (r F : Int) (i : Value) : Prop :=
  (∃ m : Nat, i = .int .i64 m ∧ m < n ∧ Found mn mx n r (m + 1) F) ∨ (i = .int .i64 (-1) ∧ Found mn mx n r 0 F)

theorem scan_at (mn mx : Nat → Int) (n m : Nat) (r F : Int) (hm : m < n) (h : Found mn mx n r m F) : ScanAt mn mx n r F (.int .i64 ((m : Int) - 1)) := by
  cases m with
  | zero => exact .inr ⟨rfl, h⟩
  | succ m => exact .inl ⟨m, by go_num, by omega, h⟩

theorem scan_start (mn mx : Nat → Int) (n : Nat) (r : Int) : ScanAt mn mx n r (-1) (.int .i64 ((n : Int) - 1)) := by
  cases n with
  | zero => exact .inr ⟨rfl, .inl ⟨rfl, fun j _ h => absurd h (Nat.not_lt_zero _)⟩⟩
  | succ n => exact .inl ⟨n, by go_num, by omega, .inl ⟨rfl, fun j h1 h2 => by omega⟩⟩

set_option maxHeartbeats 2000000 in
set_option maxRecDepth 100000 in
theorem first_core (a0 a1 : Option Addr) (n0 c0 n1 c1 : Nat) (z0 z1 : List Int) (f0 f1 : Nat → Int) (e0 : ∀ k, z0.getD k 0 = f0 k) (e1 : ∀ k, z1.getD k 0 = f1 k) (r : Int) (w : World) (w0 : IsRow .i64 w a0 n0 c0 z0) (w1 : IsRow .i64 w a1 n1 c1 z1)
    (h0 : n0 ≤ 65536) (h1 : n1 ≤ 65536) (keep1 : ∀ w', Below w.heap.size w w' → IsRow .i64 w' a1 n1 c1 z1) :
    Calls Try.prog 3 #[.slice a0 n0 c0, .slice a1 n1 c1, .int .i64 r] w fun e w' => e = .returned (.bool true) ∧ Below w.heap.size w w' := by
  have hsum : n0 + n1 ≤ 1048576 := by omega
  have E0 := hid e0
  have E1 := hid e1
  clear e0 e1
  go_enter Try.func3, Try.ntmps3
  go_wp2_with fail
  refine (zz_yes a0 a1 n0 c0 n1 c1 r _ hsum).mono ?_
  rintro e w ⟨rfl, rfl⟩
  go_wp2_with fail
  refine (clone_any a0 n0 c0 z0 f0 E0.out _ w0 (by omega)).mono ?_
  rintro e w2 ⟨A0, d0, g0, rfl, hx0, hc0, hb2⟩
  go_wp2_with fail
  refine (clone_any a1 n1 c1 z1 f1 E1.out _ (keep1 _ hb2) (by omega)).mono ?_
  rintro e w3 ⟨A1, d1, g1, rfl, hx1, hc1, hb3⟩
  obtain ⟨n, hn⟩ : ∃ n, (n1 < n0 ∧ n = n1) ∨ (n0 ≤ n1 ∧ n = n0) := by
    by_cases h : n1 < n0
    · exact ⟨n1, .inl ⟨h, rfl⟩⟩
    · exact ⟨n0, .inr ⟨by omega, rfl⟩⟩
  have hnle : n ≤ n0 ∧ n ≤ n1 := by omega
  have hx : 0 < n → A0 = some ⟨g0, 0, none⟩ ∧ A1 = some ⟨g1, 0, none⟩ ∧ g0 < w3.heap.size ∧ g1 < w3.heap.size := fun h =>
    ⟨(hx0 (by omega)).1, (hx1 (by omega)).1, Nat.lt_of_lt_of_le (hx0 (by omega)).2 hb3.size, (hx1 (by omega)).2⟩
  have k0 : ∀ k, k < n → w3.cell? ⟨g0, k, none⟩ = some (.int .i64 (f0 k)) := fun k hk => (hb3.cell (by exact (hx0 (by omega)).2)).trans (hc0 k (by omega))
  have k1 : ∀ k, k < n → w3.cell? ⟨g1, k, none⟩ = some (.int .i64 (f1 k)) := fun k hk => hc1 k (by omega)
  have B3 : Below w.heap.size w w3 := hb2.trans (hb3.mono hb2.size)
  have HN := hid hn
  have HX := hid hx
  have K0 := hid k0
  have K1 := hid k1
  have HB3 := hid B3
  clear hn hx k0 k1 B3 hx0 hx1 hc0 hc1 hb2 hb3 w0 w1 keep1 hsum
  go_wp2_with fail
  refine (build_any A0 A1 g0 g1 n0 d0 n1 d1 n f0 f1 _ (by omega) (by omega) HN.out HX.out K0.out K1.out).mono ?_
  rintro e w4 ⟨G, rfl, hG, hGs, hm0, hm1, hb4⟩
  clear HN
  go_wp2_with fail
  refine (rank_any G n n f0 f1 r _ (by omega) hGs hm0 hm1).mono ?_
  rintro e w5 ⟨lo, hi, ok, rfl, hs, hb5⟩
  have b45 : Below w3.heap.size w3 w5 := hb4.trans (hb5.mono hb4.size)
  have B5 : Below w.heap.size w w5 := HB3.out.trans (b45.mono HB3.out.size)
  have q0 : ∀ k, k < n → A0 = some ⟨g0, 0, none⟩ ∧ A1 = some ⟨g1, 0, none⟩ ∧ g0 < w5.heap.size ∧ g1 < w5.heap.size ∧ w5.cell? ⟨g0, k, none⟩ = some (.int .i64 (f0 k)) ∧ w5.cell? ⟨g1, k, none⟩ = some (.int .i64 (f1 k)) := by
    intro k hk
    obtain ⟨e0, e1, l0, l1⟩ := HX.out (by omega)
    have := b45.size
    exact ⟨e0, e1, by omega, by omega, (b45.cell (by exact l0)).trans (K0.out k hk), (b45.cell (by exact l1)).trans (K1.out k hk)⟩
  have hz5 : w.heap.size ≤ w5.heap.size := B5.size
  have HB5 := hid B5
  have HQ := hid q0
  have HS := hid hs
  clear HX K0 K1 HB3 E0 E1 hG hGs hm0 hm1 hb4 hb5 b45 B5 q0 hs
  go_wp2_with fail
  go_loop [10, 11] (fun F i => ∃ Fz : Int, F = .int .i64 Fz ∧ ScanAt f0 f1 n r Fz i) (fun _ i => (intOf i + 1).toNat)
  case atStart => exact ⟨-1, rfl, scan_start _ _ _ _⟩
  case round =>
    obtain ⟨Fz, rfl, hrel⟩ := hrel
    rcases hrel with ⟨m, rfl, hm, hf⟩ | ⟨rfl, hf⟩
    · obtain ⟨rfl, rfl, l0, l1, k0, k1⟩ := HQ.out m hm
      have HF := hid hf
      clear hf
      have hm0 : (m : Int) < (n0 : Int) := by omega
      have hm1 : (m : Int) < (n1 : Int) := by omega
      by_cases y0 : f0 m ≤ r
      · by_cases y1 : r ≤ f1 m
        · go_wp2
          go_round
          case rel => exact ⟨m, rfl, scan_at _ _ _ _ _ _ hm (found_hit HF.out hm ⟨y0, y1⟩)⟩
          case measure => simp [intOf]
        · go_wp2
          go_round
          case rel => exact ⟨Fz, rfl, scan_at _ _ _ _ _ _ hm (found_miss HF.out (fun hh => y1 hh.2))⟩
          case measure => simp [intOf]
      · go_wp2
        go_round
        case rel => exact ⟨Fz, rfl, scan_at _ _ _ _ _ _ hm (found_miss HF.out (fun hh => y0 hh.1))⟩
        case measure => simp [intOf]
    · by_cases hF : Fz < 0
      · obtain ⟨rfl, rfl, rfl⟩ := found_none hf hF HS.out
        clear hf HS HQ
        go_wp2
        go_ret
        exact ⟨rfl, HB5.out.alloc hz5 _⟩
      · obtain ⟨m, rfl, hm, rfl, rfl, rfl⟩ := found_some hf hF HS.out
        obtain ⟨rfl, rfl, l0, l1, k0, k1⟩ := HQ.out m hm
        have hm0 : (m : Int) < (n0 : Int) := by omega
        have hm1 : (m : Int) < (n1 : Int) := by omega
        clear hf HS HQ
        go_wp2_with fail
        go_quiet (fail)
        go_wp2
        go_ret
        exact ⟨rfl, below_drewN (HB5.out.alloc hz5 _) _⟩

/-- A slice that came in reads the same in a world that is as the old one below its size. -/
theorem isRow_below {k : IntKind} {w w' : World} {a : Option Addr} {len cap : Nat} {zs : List Int} (h : IsRow k w a len cap zs) (hb : Below w.heap.size w w') : IsRow k w' a len cap zs := by
  rcases h with h | ⟨x, h1, h2, h3, h4, h5, h6⟩
  · exact .inl h
  · exact .inr ⟨x, h1, h2, h3, h4, fun i hi => (hb.cell (World.block_lt_of_cell? w _ (h5 i hi))).trans (h5 i hi), h6⟩

theorem isRow_le {k : IntKind} {w : World} {a : Option Addr} {len cap : Nat} {zs : List Int} (h : IsRow k w a len cap zs) : len ≤ maxLen := by
  rcases h with ⟨_, rfl, _⟩ | ⟨x, h1, h2, h3, _⟩
  · exact Nat.zero_le _
  · omega

set_option maxHeartbeats 400000 in
set_option maxRecDepth 100000 in
theorem first_walk (a0 : Option Addr) (len0 cap0 : Nat) (z0 : List Int) (a1 : Option Addr) (len1 cap1 : Nat) (z1 : List Int) (a2 : Int) (w : World) (w0 : IsRow .i64 w a0 len0 cap0 z0) (w1 : IsRow .i64 w a1 len1 cap1 z1) :
    Calls Try.prog 3 #[.slice a0 len0 cap0, .slice a1 len1 cap1, .int .i64 a2] w fun e w' => e = .returned (.bool true) ∧ Below w.heap.size w w' := by
  have l0 := isRow_le w0
  have l1 := isRow_le w1
  by_cases hs : len0 + len1 ≤ 1048576
  · by_cases h0 : len0 ≤ 65536
    · by_cases h1 : len1 ≤ 65536
      · exact first_core a0 a1 len0 cap0 len1 cap1 z0 z1 (fun k => z0.getD k 0) (fun k => z1.getD k 0) (fun _ => rfl) (fun _ => rfl) a2 w w0 w1 h0 h1 (fun w' hb => isRow_below w1 hb)
      · clear w0 w1
        go_enter Try.func3, Try.ntmps3
        go_wp2_with (go_at_call 8; refine (zz_yes a0 a1 len0 cap0 len1 cap1 a2 _ hs).mono ?_; rintro e w' ⟨rfl, rfl⟩)
        go_ret
        exact ⟨rfl, Below.refl _ _⟩
    · clear w0 w1
      go_enter Try.func3, Try.ntmps3
      go_wp2_with (go_at_call 8; refine (zz_yes a0 a1 len0 cap0 len1 cap1 a2 _ hs).mono ?_; rintro e w' ⟨rfl, rfl⟩)
      go_ret
      exact ⟨rfl, Below.refl _ _⟩
  · clear w0 w1
    go_enter Try.func3, Try.ntmps3
    go_wp2_with (go_at_call 8; refine (zz_no a0 a1 len0 cap0 len1 cap1 a2 _ hs l0 l1).mono ?_; rintro e w' ⟨rfl, rfl⟩)
    go_ret
    exact ⟨rfl, Below.refl _ _⟩
end Go.Proofs.Qxb6600548a
