import Derived.Test.Qxb6600620aNumWalk
namespace Go.Proofs.Qxb6600620a.Num
open Go.ChangeShapes Go.WideShapes Go.ChangeAt Go.RowKit
set_option linter.unusedVariables false

theorem info5 : (Try.prog.info? 5).map (fun i => (i.zero, i.size, i.bytes)) = some (some (.int .u8 0), 1, 1) := by kernel_rfl

theorem clone_nil (w : World) : Calls Try.prog 8 #[.slice none 0 0] w fun e w' => e = .returned (.slice none 0 0) ∧ w' = w := by
  have hq := fun w => Lib.run_eql_slice_nil (P := Try.prog) w 22 5 none 0 0 0 0 Try.underlying22
  go_enter Try.func8, Try.ntmps8
  go_wp2
  go_ret
  exact ⟨rfl, rfl⟩

/-- One store into a row of numbers that is being filled. -/
theorem fill_step {f : Nat → Int} {xs : List Value} {k : Nat} (kind : IntKind) (hk : k < xs.length) (h : ∀ j, j < k → xs[j]? = some (.int kind (f j))) : ∀ j, j < k + 1 → (xs.set k (.int kind (f k)))[j]? = some (.int kind (f j)) := by
  intro j hj
  rw [List.getElem?_set]
  by_cases e : k = j
  · subst e; simp [hk]
  · rw [if_neg e]; exact h j (by omega)

set_option maxHeartbeats 400000 in
set_option maxRecDepth 100000 in
theorem clone_some (x : Addr) (b off n cap : Nat) (f : Nat → Int) (w : World) (hn : n ≤ 1048576) (hx : 0 < n → x = ⟨b, off, none⟩) (hbs : 0 < n → b < w.heap.size)
    (hc : ∀ k, k < n → w.cell? ⟨b, off + k, none⟩ = some (.int .u8 (f k))) :
    Calls Try.prog 8 #[.slice (some x) n cap] w fun e w' => ∃ g, e = .returned (.slice (some ⟨g, 0, none⟩) n n) ∧ w.heap.size ≤ g ∧ g < w'.heap.size ∧
      (∀ k, k < n → w'.cell? ⟨g, k, none⟩ = some (.int .u8 (f k))) ∧ Below w.heap.size w w' := by
  have hq := fun w => Lib.run_eql_slice_nil (P := Try.prog) w 22 5 (some x) n cap 0 0 Try.underlying22
  obtain ⟨i0, hi, hz0, hz1, hz2⟩ := info_parts info5
  have HX := hid (hx)
  have HC := hid (hc)
  clear hx hc
  go_enter Try.func8, Try.ntmps8
  go_wp2_with (at_make; refine wpList_make_full _ rfl _ _ 22 rfl w.heap.size 5 i0 (.int .u8 0) 1 Try.underlying22 hi hz0 hz1 _ _ _ _ n rfl rfl rfl rfl (by rw [hz2]; omega) (by unfold maxLen; omega) (Nat.le_refl _) ?_)
  intro w1 hown hgrow
  have hb1 : Below w.heap.size w w1 := (Below.refl _ _).grown hgrow (Nat.le_refl _) (fun q hq => by cases hq)
  clear hgrow
  go_wp2
  go_loopw [4] (fun i wr => ∃ (k : Nat) (xs : List Value), k ≤ n ∧ i = .int .i64 k ∧ wr.ownsRow w.heap.size 5 1 (.slice (some ⟨w.heap.size, 0, none⟩) n n) n xs ∧ (∀ j, j < k → xs[j]? = some (.int .u8 (f j))) ∧ Below w.heap.size w wr)
    (fun i _ => n - (intOf i).toNat)
  case atStart => exact ⟨0, _, Nat.zero_le _, rfl, hown, fun j hj => absurd hj (Nat.not_lt_zero _), hb1⟩
  case round =>
    obtain ⟨k, xs, hk, rfl, hownr, hxs, hb⟩ := hrel
    have hlen : xs.length = n := by have := hownr.1; omega
    by_cases hlt : k < n
    · obtain rfl := HX.out (by omega)
      have c0 : wr.cell? ⟨b, off + k, none⟩ = some (.int .u8 (f k)) := (hb.cell (by exact hbs (by omega))).trans (HC.out k hlt)
      obtain ⟨d, d0⟩ : ∃ d, wr.cell? ⟨w.heap.size, k, none⟩ = some d := ⟨_, by rw [hownr.cellAt k (by omega)]; exact List.getElem?_eq_getElem (by omega)⟩
      have f0 := hownr.frozenAt k
      obtain ⟨hst, _⟩ := hownr.stored k (.int .u8 (f k))
      have HS := hid (hst)
      have HXS := hid (fill_step .u8 (by omega) hxs)
      have HL := hid (hlen)
      clear hst hxs hown hownr hb1 hlen
      go_wp2
      go_roundw
      case rel => exact ⟨k + 1, _, by omega, by go_num, HS.out, HXS.out, hb.setCell (Nat.le_refl _) _⟩
      case measure => simp [intOf]; omega
    · have hkn : k = n := by omega
      subst hkn
      clear hown hb1
      have HO := hid (hownr)
      have HXS := hid (hxs)
      clear hownr hxs hlen
      go_wp2
      go_ret
      obtain ⟨g', cap', hv, hg', hgs⟩ : ∃ g' cap', True ∧ w.heap.size ≤ g' ∧ w.heap.size < wr.heap.size := by
        rcases HO.out.2 with ⟨h', _⟩ | ⟨g', cap', cur, h', hg, hh, _⟩
        · simp at h'
        · simp only [Value.slice.injEq, Option.some.injEq, Addr.mk.injEq, and_true, true_and] at h'
          obtain ⟨rfl, rfl⟩ := h'
          exact ⟨_, 0, trivial, Nat.le_refl _, (Array.getElem?_eq_some_iff.1 hh).1⟩
      exact ⟨w.heap.size, rfl, Nat.le_refl _, hgs, fun j hj => (HO.out.cellAt j (by omega)).trans (HXS.out j hj), hb⟩

/-- WHAT THE WALK IS TOLD OF A SLICE OF INTEGERS THAT CAME IN: it is nil; or it leads to a row of 'cap' cells, the numbers 'zs' (the first 'len' are its elements, the rest its spare room), each fitting its kind. -/
def IsRow (k : IntKind) (w : World) (a : Option Addr) (len cap : Nat) (zs : List Int) : Prop :=
  (a = none ∧ len = 0 ∧ cap = 0 ∧ zs = []) ∨
  ∃ x, a = some x ∧ len ≤ cap ∧ cap ≤ maxLen ∧ zs.length = cap ∧ (∀ i, i < zs.length → w.cell? (x.add i) = some (.int k (zs.getD i 0))) ∧ ∀ n ∈ zs, (Lit.int k n).wf = true

/-- cloneInts of whatever slice of integers: a slice of the same length whose elements lie in a new block. -/
theorem clone_any (a : Option Addr) (len cap : Nat) (zs : List Int) (f : Nat → Int) (hf : ∀ k, zs.getD k 0 = f k) (w : World) (hr : IsRow .u8 w a len cap zs) (hn : len ≤ 1048576) :
    Calls Try.prog 8 #[.slice a len cap] w fun e w' => ∃ A c g, e = .returned (.slice A len c) ∧ (0 < len → A = some ⟨g, 0, none⟩ ∧ c = len ∧ g < w'.heap.size) ∧
      (∀ k, k < len → w'.cell? ⟨g, k, none⟩ = some (.int .u8 (f k))) ∧ Below w.heap.size w w' := by
  rcases hr with ⟨rfl, rfl, rfl, rfl⟩ | ⟨x, rfl, hlc, hcm, hzl, hcell, _⟩
  · refine (clone_nil w).mono ?_
    rintro e w' ⟨rfl, rfl⟩
    exact ⟨none, 0, 0, rfl, fun h => absurd h (Nat.lt_irrefl _), fun k hk => absurd hk (Nat.not_lt_zero _), Below.refl _ _⟩
  · by_cases h0 : 0 < len
    · obtain ⟨b, off, rfl, hc⟩ := ints_at hcell (by omega)
      have hbs : b < w.heap.size := World.block_lt_of_cell? w _ (hc 0 (by omega))
      refine (clone_some ⟨b, off, none⟩ b off len cap f w hn (fun _ => rfl) (fun _ => hbs) (fun k hk => by rw [← hf k]; exact hc k (by omega))).mono ?_
      rintro e w' ⟨g, rfl, hg, hgs, hcs, hb⟩
      exact ⟨_, _, g, rfl, fun _ => ⟨rfl, rfl, hgs⟩, hcs, hb⟩
    · have hl : len = 0 := by omega
      subst hl
      refine (clone_some x 0 0 0 cap (fun _ => 0) w (Nat.zero_le _) (fun h => absurd h (Nat.lt_irrefl _)) (fun h => absurd h (Nat.lt_irrefl _)) (fun k hk => absurd hk (Nat.not_lt_zero _))).mono ?_
      rintro e w' ⟨g, rfl, _, _, _, hb⟩
      exact ⟨_, _, g, rfl, fun h => absurd h (Nat.lt_irrefl _), fun k hk => absurd hk (Nat.not_lt_zero _), hb⟩

theorem isRow_below {k : IntKind} {w w' : World} {a : Option Addr} {len cap : Nat} {zs : List Int} (h : IsRow k w a len cap zs) (hb : Below w.heap.size w w') : IsRow k w' a len cap zs := by
  rcases h with h | ⟨x, h1, h2, h3, h4, h5, h6⟩
  · exact .inl h
  · exact .inr ⟨x, h1, h2, h3, h4, fun i hi => (hb.cell (World.block_lt_of_cell? w _ (h5 i hi))).trans (h5 i hi), h6⟩

theorem isRow_le {k : IntKind} {w : World} {a : Option Addr} {len cap : Nat} {zs : List Int} (h : IsRow k w a len cap zs) : len ≤ maxLen := by
  rcases h with ⟨_, rfl, _⟩ | ⟨x, h1, h2, h3, _⟩
  · exact Nat.zero_le _
  · omega

theorem zznum_any (g L cap : Nat) (t : Nat → Int) (E : Nat → Nat) (x : Int) (i : Nat) (r : Int) (w : World) (hx : x = i) (hs : Seg w g L t) (hE : Ends t E) (hi : i < L) (hr : neAt t E i = r) :
    Calls Try.prog 9 #[.slice (some ⟨g, 0, none⟩) L cap, .int .i64 x] w fun e w' => e = .returned (.int .i64 r) ∧ w' = w := by
  subst hr
  have HX := hid hx
  have HS := hid hs
  have HE := hid hE
  clear hs hE hx
  go_enter Try.func9, Try.ntmps9
  go_wp2_with fail
  refine (numberEnd_any g L cap t E x i _ HX.out HS.out HE.out hi).mono ?_
  rintro e w' ⟨rfl, rfl⟩
  go_wp2
  go_ret
  exact ⟨rfl, rfl⟩
end Go.Proofs.Qxb6600620a.Num
