import Derived.Test.Qxb6600620aNumClone
namespace Go.Proofs.Qxb6600620a.Num
open Go.ChangeShapes Go.WideShapes Go.ChangeAt Go.RowKit
set_option linter.unusedVariables false

theorem zz11_yes (a0 a1 : Option Addr) (n0 c0 n1 c1 : Nat) (r : Int) (w : World) (h : n0 + n1 ≤ 1048576) :
    Calls Try.prog 11 #[.slice a0 n0 c0, .slice a1 n1 c1, .int .i64 r] w fun e w' => e = .returned (.bool true) ∧ w' = w := by
  go_enter Try.func11, Try.ntmps11
  go_wp2
  go_ret
  exact ⟨rfl, rfl⟩

theorem zz11_no (a0 a1 : Option Addr) (n0 c0 n1 c1 : Nat) (r : Int) (w : World) (h : ¬ n0 + n1 ≤ 1048576) (h0 : n0 ≤ maxLen) (h1 : n1 ≤ maxLen) :
    Calls Try.prog 11 #[.slice a0 n0 c0, .slice a1 n1 c1, .int .i64 r] w fun e w' => e = .returned (.bool false) ∧ w' = w := by
  unfold maxLen at h0 h1
  by_cases k0 : n0 ≤ 1048576
  · by_cases k1 : n1 ≤ 1048576
    all_goals
      go_enter Try.func11, Try.ntmps11
      go_wp2
      go_ret
      exact ⟨rfl, rfl⟩
  · go_enter Try.func11, Try.ntmps11
    go_wp2
    go_ret
    exact ⟨rfl, rfl⟩

/-- The text cut at R. -/
def cutAt (t : Nat → Int) (R k : Nat) : Int := if k < R then t k else 0
/-- The text with the n bytes f before it. -/
def joinAt (f : Nat → Int) (n : Nat) (t : Nat → Int) (k : Nat) : Int := if k < n then f k else t (k - n)

theorem cutAt_lt {t : Nat → Int} {R k : Nat} (h : k < R) : cutAt t R k = t k := by unfold cutAt; rw [if_pos h]
theorem cutAt_ge {t : Nat → Int} {R k : Nat} (h : R ≤ k) : cutAt t R k = 0 := by unfold cutAt; rw [if_neg (by omega)]
theorem joinAt_lt {f t : Nat → Int} {n k : Nat} (h : k < n) : joinAt f n t k = f k := by unfold joinAt; rw [if_pos h]
theorem joinAt_add {f t : Nat → Int} {n : Nat} (k : Nat) : joinAt f n t (n + k) = t k := by unfold joinAt; rw [if_neg (by omega)]; congr 1; omega

theorem seg_cut {w : World} {g L R : Nat} {t : Nat → Int} (h : Seg w g L t) (hR : R ≤ L) : Seg w g R (cutAt t R) :=
  ⟨fun k hk => by rw [cutAt_lt hk]; exact h.cell k (by omega), fun k hk => cutAt_ge hk, by have := h.len; omega⟩

/-- What r may be. -/
theorem r_cases {w : World} {g L : Nat} {t : Nat → Int} {E : Nat → Nat} {i : Nat} {r : Int} (hs : Seg w g L t) (hE : Ends t E) (hr : neAt t E i = r) :
    r = -1 ∨ ∃ R : Nat, r = R ∧ i < R ∧ R ≤ L ∧ digB (t (R - 1)) = true := by
  rcases neAt_on hE i with h | ⟨R, h, h1, h2, h3⟩
  · exact .inl (hr ▸ h)
  · have := hs.dig h3
    exact .inr ⟨R, hr ▸ h, by omega, by omega, h3⟩

theorem r_start {t : Nat → Int} {E : Nat → Nat} {i : Nat} {r : Int} (hr : neAt t E i = r) (h1 : (t i != 45) = true) (h2 : digB (t i) = false) : (r != -1) = false := by
  rw [← hr, neAt_start (by simpa using h1) h2]; rfl

set_option maxHeartbeats 2000000 in
set_option maxRecDepth 100000 in
theorem shift_core (a0 a1 : Option Addr) (n0 c0 n1 c1 : Nat) (z0 z1 : List Int) (f0 t : Nat → Int) (e0 : ∀ k, z0.getD k 0 = f0 k) (e1 : ∀ k, k < n1 → z1.getD k 0 = t k) (ht : ∀ k, n1 ≤ k → t k = 0) (I : Nat) (w : World)
    (w0 : IsRow .u8 w a0 n0 c0 z0) (w1 : IsRow .u8 w a1 n1 c1 z1) (h0 : n0 ≤ 524288) (h1 : n1 ≤ 524288) (hI : I < n1) (keep1 : ∀ w', Below w.heap.size w w' → IsRow .u8 w' a1 n1 c1 z1) :
    Calls Try.prog 4 #[.slice a0 n0 c0, .slice a1 n1 c1, .int .i64 I] w fun e w' => e = .returned (.bool true) ∧ Below w.heap.size w w' := by
  have hsum : n0 + n1 ≤ 1048576 := by omega
  have T0 := hid e0
  have T1 := hid e1
  have TT := hid ht
  clear e0 e1 ht
  go_enter Try.func4, Try.ntmps4
  go_wp2_with fail
  refine (zz11_yes a0 a1 n0 c0 n1 c1 I _ hsum).mono ?_
  rintro e w ⟨rfl, rfl⟩
  go_wp2_with fail
  refine (clone_any a0 n0 c0 z0 f0 T0.out _ w0 (by omega)).mono ?_
  rintro e w2 ⟨A0, d0, g0, rfl, hx0, hc0, hb2⟩
  go_wp2_with fail
  refine (clone_any a1 n1 c1 z1 (fun k => z1.getD k 0) (fun _ => rfl) _ (keep1 _ hb2) (by omega)).mono ?_
  rintro e w3 ⟨A1, d1, g1, rfl, hx1, hc1, hb3⟩
  obtain ⟨rfl, hd1, hg1⟩ := hx1 (by omega)
  obtain rfl : n1 = d1 := hd1.symm
  have hs : Seg w3 g1 n1 t := ⟨fun k hk => by rw [← T1.out k hk]; exact hc1 k hk, TT.out, by omega⟩
  have q0 : ∀ k, k < n0 → A0 = some ⟨g0, 0, none⟩ ∧ g0 < w3.heap.size ∧ w3.cell? ⟨g0, k, none⟩ = some (.int .u8 (f0 k)) := by
    intro k hk
    obtain ⟨ea, _, hl⟩ := hx0 (by omega)
    exact ⟨ea, Nat.lt_of_lt_of_le hl hb3.size, (hb3.cell (by exact hl)).trans (hc0 k hk)⟩
  have B3 : Below w.heap.size w w3 := hb2.trans (hb3.mono hb2.size)
  have HS := hid hs
  have Q0 := hid q0
  have HB3 := hid B3
  have hE : Ends t (dEnd t n1) := dEnd_ok TT.out
  obtain ⟨r, hr⟩ : ∃ r, neAt t (dEnd t n1) I = r := ⟨_, rfl⟩
  have HR := hid hr
  have HE := hid hE
  have hrc := r_cases hs hE hr
  have hrb : -1 ≤ r ∧ r ≤ n1 := by
    rcases hrc with rfl | ⟨R, rfl, _, h, _⟩ <;> omega
  have HRC := hid hrc
  have hcI := hs.cell I hI
  clear hs q0 B3 hE hr hrc hx0 hx1 hc0 hc1 hb2 hb3 w0 w1 keep1 hsum T0 T1
  go_wp2_with fail
  refine (zznum_any g1 n1 _ t _ _ I r _ rfl HS.out HE.out hI HR.out).mono ?_
  rintro e w3 ⟨rfl, rfl⟩
  go_upto_if 39 with fail
  go_cut [] (fun wx => w3 = wx)
  case first =>
    rcases HRC.out with rfl | ⟨R, rfl, hR1, hR2, hR3⟩
    · go_wp2
      go_meet
      case rel => exact rfl
    · have hR0 : ((R : Int) != -1) = true := by rw [bne_iff_ne]; omega
      have hcR := HS.out.cell (R - 1) (by omega)
      go_wp2_with (go_at_call 12; refine (isDig_any _ _).mono ?_; rintro e w' ⟨rfl, rfl⟩)
      refine (zznum_any g1 R _ (cutAt t R) (dEnd (cutAt t R) R) _ I R _ rfl (seg_cut HS.out hR2) (dEnd_ok (fun k hk => cutAt_ge hk)) hR1 (neAt_cut (fun k hk => cutAt_lt hk) (cutAt_ge (Nat.le_refl _)) HE.out (dEnd_ok (fun k hk => cutAt_ge hk)) HR.out)).mono ?_
      rintro e w' ⟨rfl, rfl⟩
      go_wp2
      go_meet
      case rel => exact rfl
  case rest =>
    obtain rfl := hcut
    go_upto_region 19 with fail
    go_cut [79] (fun v wx => v = .bool false ∧ w3 = wx)
    case first =>
      cases h45 : (t I != 45)
      · go_wp2_with (go_at_call 12; refine (isDig_any _ _).mono ?_; rintro e w' ⟨rfl, rfl⟩)
        go_meet
        case rel => exact ⟨rfl, rfl⟩
      · cases hd : digB (t I)
        · have hr1 := r_start HR.out h45 hd
          go_wp2_with (go_at_call 12; refine (isDig_any _ _).mono ?_; rintro e w' ⟨rfl, rfl⟩)
          go_meet
          case rel => exact ⟨rfl, rfl⟩
        · go_wp2_with (go_at_call 12; refine (isDig_any _ _).mono ?_; rintro e w' ⟨rfl, rfl⟩)
          go_meet
          case rel => exact ⟨rfl, rfl⟩
    case rest =>
      obtain ⟨rfl, rfl⟩ := hcut
      obtain ⟨i0, hi, hz0, hz1, hz2⟩ := info_parts info5
      clear hcI
      go_wp2_with (at_make; refine wpList_make_full _ rfl _ _ 22 rfl w3.heap.size 5 i0 (.int .u8 0) 1 Try.underlying22 hi hz0 hz1 _ _ _ _ (n0 + n1) rfl rfl (by omega) (by omega) (by rw [hz2]; omega) (by unfold maxLen; omega) (Nat.le_refl _) ?_)
      intro w4 hown hgrow
      have hb4 : Below w3.heap.size w3 w4 := (Below.refl _ _).grown hgrow (Nat.le_refl _) (fun q hq => by cases hq)
      clear hgrow
      go_wp2_with fail
      go_loopw [9] (fun v wr => ∃ (k : Nat) (xs : List Value), k ≤ n0 ∧ v = .int .i64 k ∧ wr.ownsRow w3.heap.size 5 1 (.slice (some ⟨w3.heap.size, 0, none⟩) (n0 + n1) (n0 + n1)) (n0 + n1) xs ∧
          (∀ j, j < k → xs[j]? = some (.int .u8 (joinAt f0 n0 t j))) ∧ Below w3.heap.size w3 wr)
        (fun v _ => n0 - (intOf v).toNat)
      case atStart => exact ⟨0, _, Nat.zero_le _, rfl, hown, fun j hj => absurd hj (Nat.not_lt_zero _), hb4⟩
      case round =>
        obtain ⟨k, xs, hk, rfl, hownr, hxs, hb⟩ := hrel
        clear hown hb4
        have hlen : xs.length = n0 + n1 := by have := hownr.1; omega
        by_cases hlt : k < n0
        · obtain ⟨rfl, hg0, hc0⟩ := Q0.out k hlt
          have c0 : wr.cell? ⟨g0, k, none⟩ = some (.int .u8 (f0 k)) := (hb.cell (by exact hg0)).trans hc0
          obtain ⟨d, dd⟩ : ∃ d, wr.cell? ⟨w3.heap.size, k, none⟩ = some d := ⟨_, by rw [hownr.cellAt k (by omega)]; exact List.getElem?_eq_getElem (by omega)⟩
          have fr := hownr.frozenAt k
          obtain ⟨hst, _⟩ := hownr.stored k (.int .u8 (f0 k))
          have HST := hid hst
          have HXS := hid (fill_step .u8 (f := joinAt f0 n0 t) (by omega) hxs)
          have HJ := hid (joinAt_lt (f := f0) (t := t) hlt)
          have HL := hid hlen
          clear hst hxs hownr hc0 hlen
          go_wp2
          go_roundw
          case rel => exact ⟨k + 1, _, by omega, by go_num, HST.out, by rw [← HJ.out]; exact HXS.out, hb.setCell (Nat.le_refl _) _⟩
          case measure => simp [intOf]; omega
        · have hkn : k = n0 := by omega
          have HXS := hid (show ∀ j, j < n0 + 0 → xs[j]? = some (.int .u8 (joinAt f0 n0 t j)) from fun j hj => hxs j (by omega))
          have HO := hid hownr
          clear hxs hownr hlen hkn
          go_wp2_with fail
          go_loopw [10] (fun v ws => ∃ (k : Nat) (xs : List Value), k ≤ n1 ∧ v = .int .i64 k ∧ ws.ownsRow w3.heap.size 5 1 (.slice (some ⟨w3.heap.size, 0, none⟩) (n0 + n1) (n0 + n1)) (n0 + n1) xs ∧
              (∀ j, j < n0 + k → xs[j]? = some (.int .u8 (joinAt f0 n0 t j))) ∧ Below w3.heap.size w3 ws)
            (fun v _ => n1 - (intOf v).toNat)
          case atStart => exact ⟨0, _, Nat.zero_le _, rfl, HO.out, HXS.out, hb⟩
          case round =>
            obtain ⟨m, ys, hm, rfl, howns, hys, hbs⟩ := hrel
            clear HO HXS hb
            have hlen : ys.length = n0 + n1 := by have := howns.1; omega
            by_cases hmt : m < n1
            · have c0 : wr.cell? ⟨g1, m, none⟩ = some (.int .u8 (t m)) := (hbs.cell (by exact hg1)).trans (HS.out.cell m hmt)
              obtain ⟨d, dd⟩ : ∃ d, wr.cell? ⟨w3.heap.size, n0 + m, none⟩ = some d := ⟨_, by rw [howns.cellAt (n0 + m) (by omega)]; exact List.getElem?_eq_getElem (by omega)⟩
              have fr := howns.frozenAt (n0 + m)
              obtain ⟨hst, _⟩ := howns.stored (n0 + m) (.int .u8 (t m))
              have HST := hid hst
              have HYS := hid (fill_step .u8 (f := joinAt f0 n0 t) (by omega) hys)
              have HJ := hid (joinAt_add (f := f0) (t := t) (n := n0) m)
              clear hst hys howns hlen
              go_wp2
              go_roundw
              case rel => exact ⟨m + 1, _, by omega, by go_num, HST.out, by rw [← HJ.out]; exact HYS.out, hbs.setCell (Nat.le_refl _) _⟩
              case measure => simp [intOf]; omega
            · have hmn : m = n1 := by omega
              have hsj : Seg wr w3.heap.size (n0 + n1) (joinAt f0 n0 t) :=
                ⟨fun j hj => (howns.cellAt j (by omega)).trans (hys j (by omega)), fun j hj => by rw [show j = n0 + (j - n0) by omega, joinAt_add]; exact HS.out.past _ (by omega), by omega⟩
              have HSJ := hid hsj
              have HB := hid (HB3.out.trans (hbs.mono HB3.out.size))
              have hEj : Ends (joinAt f0 n0 t) (dEnd (joinAt f0 n0 t) (n0 + n1)) := dEnd_ok hsj.past
              have hrj : neAt (joinAt f0 n0 t) (dEnd (joinAt f0 n0 t) (n0 + n1)) (n0 + I) = shiftB n0 r := by
                rw [neAt_shift (t := t) (fun k => joinAt_add k) HE.out hEj I, HR.out]
              have HEJ := hid hEj
              have HRJ := hid hrj
              clear hsj hEj hrj howns hys hlen hmn hbs
              rcases HRC.out with rfl | ⟨R, rfl, hR1, hR2, hR3⟩
              · go_wp2_with fail
                refine (zznum_any _ (n0 + n1) _ (joinAt f0 n0 t) _ _ (n0 + I) (-1) _ (by omega) HSJ.out HEJ.out (by omega) HRJ.out).mono ?_
                rintro e w' ⟨rfl, rfl⟩
                go_wp2
                go_ret
                exact ⟨rfl, HB.out⟩
              · have hR0 : ((R : Int) == -1) = false := by rw [beq_eq_false_iff_ne]; omega
                go_wp2_with fail
                refine (zznum_any _ (n0 + n1) _ (joinAt f0 n0 t) _ _ (n0 + I) ((R : Int) + (n0 : Int)) _ (by omega) HSJ.out HEJ.out (by omega) (HRJ.out.trans (by rw [shiftB_nat]; omega))).mono ?_
                rintro e w' ⟨rfl, rfl⟩
                go_wp2
                go_ret
                exact ⟨rfl, HB.out⟩

set_option maxHeartbeats 1000000 in
set_option maxRecDepth 100000 in
theorem shift_walk (a0 : Option Addr) (len0 cap0 : Nat) (z0 : List Int) (a1 : Option Addr) (len1 cap1 : Nat) (z1 : List Int) (a2 : Int) (w : World) (w0 : IsRow .u8 w a0 len0 cap0 z0) (w1 : IsRow .u8 w a1 len1 cap1 z1) :
    Calls Try.prog 4 #[.slice a0 len0 cap0, .slice a1 len1 cap1, .int .i64 a2] w fun e w' => e = .returned (.bool true) ∧ Below w.heap.size w w' := by
  have l0 := isRow_le w0
  have l1 := isRow_le w1
  by_cases hs : len0 + len1 ≤ 1048576
  · by_cases h0 : len0 ≤ 524288
    · by_cases h1 : len1 ≤ 524288
      · by_cases hi : 0 ≤ a2
        · obtain ⟨I, rfl⟩ := Int.eq_ofNat_of_zero_le hi
          by_cases hI : I < len1
          · exact shift_core a0 a1 len0 cap0 len1 cap1 z0 z1 (fun k => z0.getD k 0) (cutAt (fun k => z1.getD k 0) len1) (fun _ => rfl) (fun k hk => (cutAt_lt (t := fun k => z1.getD k 0) hk).symm) (fun k hk => cutAt_ge hk) I w w0 w1 h0 h1 hI (fun w' hb => isRow_below w1 hb)
          · clear w0 w1
            go_enter Try.func4, Try.ntmps4
            go_wp2_with (go_at_call 11; refine (zz11_yes a0 a1 len0 cap0 len1 cap1 _ _ hs).mono ?_; rintro e w' ⟨rfl, rfl⟩)
            go_ret
            exact ⟨rfl, Below.refl _ _⟩
        · clear w0 w1
          go_enter Try.func4, Try.ntmps4
          go_wp2_with (go_at_call 11; refine (zz11_yes a0 a1 len0 cap0 len1 cap1 _ _ hs).mono ?_; rintro e w' ⟨rfl, rfl⟩)
          go_ret
          exact ⟨rfl, Below.refl _ _⟩
      · clear w0 w1
        go_enter Try.func4, Try.ntmps4
        go_wp2_with (go_at_call 11; refine (zz11_yes a0 a1 len0 cap0 len1 cap1 _ _ hs).mono ?_; rintro e w' ⟨rfl, rfl⟩)
        go_ret
        exact ⟨rfl, Below.refl _ _⟩
    · clear w0 w1
      go_enter Try.func4, Try.ntmps4
      go_wp2_with (go_at_call 11; refine (zz11_yes a0 a1 len0 cap0 len1 cap1 _ _ hs).mono ?_; rintro e w' ⟨rfl, rfl⟩)
      go_ret
      exact ⟨rfl, Below.refl _ _⟩
  · clear w0 w1
    go_enter Try.func4, Try.ntmps4
    go_wp2_with (go_at_call 11; refine (zz11_no a0 a1 len0 cap0 len1 cap1 _ _ hs l0 l1).mono ?_; rintro e w' ⟨rfl, rfl⟩)
    go_ret
    exact ⟨rfl, Below.refl _ _⟩
end Go.Proofs.Qxb6600620a.Num
