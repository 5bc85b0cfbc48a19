import Derived.Test.Qxb6600620aLuhnWalk
import Derived.Deep.CutBlock
namespace Go.Proofs.Qxb6600620a
open Go.ChangeShapes Go.WideShapes Go.ChangeAt Go.RowKit
set_option linter.unusedVariables false

theorem info33 : (Try.prog.info? 33).map (·.size) = some 19 := by kernel_rfl

/-- The array holds the offsets l. -/
def HoldsL (cs : Array Value) (l : List Nat) : Prop := cs.size = 19 ∧ ∀ m (h : m < l.length), cs[m]? = some (.int .i64 (l[m] : Int))

theorem holdsL_push {cs : Array Value} {l : List Nat} {j : Nat} (h : HoldsL cs l) (hl : l.length < 19) : HoldsL (cs.setIfInBounds l.length (.int .i64 (j : Int))) (l ++ [j]) := by
  refine ⟨by simpa using h.1, fun m hm => ?_⟩
  rw [Array.getElem?_setIfInBounds]
  by_cases e : l.length = m
  · subst e
    have h1 := h.1
    simp [h1, hl]
  · rw [if_neg e]
    have hm' : m < l.length := by simp at hm; omega
    rw [h.2 m hm', List.getElem_append_left hm']

/-- Where the model's first loop stands: the offsets pre are stored, the next digit stands at J. -/
def PosAt (t : Nat → Int) (i : Nat) (cs : Array Value) (pre : List Nat) (J : Nat) (S : Int) : Prop :=
  HoldsL cs pre ∧ pre ++ mpos t (19 - pre.length) pre.length J S = ps t i ∧ digB (t J) = true ∧ J ≤ i + 2 * pre.length

theorem pos_last {t : Nat → Int} {i J : Nat} {S : Int} {cs : Array Value} {pre : List Nat} (h : PosAt t i cs pre J S) (hl : pre.length < 19)
    (he : pre.length + 1 = 19 ∨ (digB (t (J + 1)) = false ∧ (sepB (t (J + 1)) S && digB (t (J + 2))) = false)) : pre ++ [J] = ps t i := by
  obtain ⟨_, h2, _⟩ := h
  rw [← h2, show 19 - pre.length = (19 - (pre.length + 1)) + 1 by omega, mpos_cons]
  rcases he with he | ⟨h1, h2⟩
  · rw [if_pos he]
  · by_cases e : pre.length + 1 = 19
    · rw [if_pos e]
    · rw [if_neg e, if_neg (by rw [h1]; decide), if_neg (by rw [h2]; decide)]

theorem pos_dig {t : Nat → Int} {i J : Nat} {S : Int} {cs : Array Value} {pre : List Nat} (h : PosAt t i cs pre J S) (hl : ¬ pre.length + 1 = 19) (hl' : pre.length < 19) (hd : digB (t (J + 1)) = true) :
    PosAt t i (cs.setIfInBounds pre.length (.int .i64 (J : Int))) (pre ++ [J]) (J + 1) S := by
  obtain ⟨h1, h2, h3, h4⟩ := h
  refine ⟨holdsL_push h1 hl', ?_, hd, by simp; omega⟩
  rw [← h2, show 19 - pre.length = (19 - (pre.length + 1)) + 1 by omega, mpos_cons, if_neg hl, if_pos hd]
  simp

theorem pos_sep {t : Nat → Int} {i J : Nat} {S : Int} {cs : Array Value} {pre : List Nat} (h : PosAt t i cs pre J S) (hl : ¬ pre.length + 1 = 19) (hl' : pre.length < 19) (hd : digB (t (J + 1)) = false)
    (hs : (sepB (t (J + 1)) S && digB (t (J + 2))) = true) : PosAt t i (cs.setIfInBounds pre.length (.int .i64 (J : Int))) (pre ++ [J]) (J + 2) (t (J + 1)) := by
  obtain ⟨h1, h2, h3, h4⟩ := h
  refine ⟨holdsL_push h1 hl', ?_, by rw [Bool.and_eq_true] at hs; exact hs.2, by simp; omega⟩
  rw [← h2, show 19 - pre.length = (19 - (pre.length + 1)) + 1 by omega, mpos_cons, if_neg hl, if_neg (by rw [hd]; decide), if_pos hs]
  simp

theorem sep_out {s : ByteArray} {j : Nat} {b : Bool} (h : ¬ j < s.size) : (b && digB (tx s j)) = false := by rw [dig_out h]; simp
theorem dig_pre {s : ByteArray} {j : Nat} {b : Bool} (h : (b && digB (tx s (j + 2))) = true) : j + 1 < s.size := by
  rw [Bool.and_eq_true] at h
  have := dig_in h.2
  omega

theorem mBest_dig {t : Nat → Int} {l : List Nat} {e : Nat} {b : Int} (h : digB (t e) = true) : mBest t l e b = b := by
  unfold mBest; rw [if_neg]; rintro ⟨_, h1, _⟩; rw [h] at h1; cases h1
theorem mBest_no {t : Nat → Int} {l : List Nat} {e : Nat} {b : Int} (h : (luL (dg t l) % 10 == 0) = false) : mBest t l e b = b := by
  unfold mBest; rw [if_neg]; rintro ⟨_, _, h1⟩; rw [h1] at h; cases h
theorem mBest_yes {t : Nat → Int} {l : List Nat} {e : Nat} {b : Int} (hl : 13 ≤ l.length) (hd : digB (t e) = false) (h : (luL (dg t l) % 10 == 0) = true) : mBest t l e b = e := by
  unfold mBest; rw [if_pos ⟨hl, hd, by simpa using h⟩]
theorem luhn_at (s : ByteArray) (cs : Array Value) (l : List Nat) (x : Int) (w : World) (hx : x = l.length) (hs : s.size ≤ 1048576) (hc : cs.size = 19) (hl : 0 < l.length) (hl19 : l.length ≤ 19) (hd : ∀ x ∈ l, digB (tx s x) = true)
    (hcs : ∀ m (h : m < l.length), cs[m]? = some (.int .i64 (l[m] : Int))) :
    Calls Try.prog 21 #[.string s, .agg cs, .int .i64 x] w fun e w' => e = .returned (.bool (luL (dg (tx s) l) % 10 == 0)) ∧ w' = w.alloc (.cells cs 33) := by
  subst hx
  exact luhn_any s cs l w hs hc hl hl19 hd hcs

set_option maxHeartbeats 2000000 in
set_option maxRecDepth 100000 in
theorem model_any (s : ByteArray) (i : Nat) (w : World) (hs : s.size ≤ 1048576) (hd : digB (tx s i) = true) :
    Calls Try.prog 15 #[.string s, .int .i64 i] w fun e w' => e = .returned (.int .i64 (mscan (tx s) [] (ps (tx s) i) (-1))) ∧ Below w.heap.size w w' := by
  have hi := dig_in hd
  have HD := hid hd
  clear hd
  go_enter Try.func15, Try.ntmps15
  go_upto_block 0 with fail
  go_cut [6] (fun v wx => ∃ cs : Array Value, v = .int .i64 (ps (tx s) i).length ∧ HoldsL cs (ps (tx s) i) ∧ wx = w.alloc (.cells cs 33))
  case first =>
    go_wp2_with fail
    go_loopw [6, 7, 8] (fun k sp j wr => ∃ (pre : List Nat) (J : Nat) (S : Int) (cs : Array Value), k = .int .i64 pre.length ∧ sp = .int .u8 S ∧ j = .int .i64 J ∧ wr = w.alloc (.cells cs 33) ∧ pre.length < 19 ∧ (0 ≤ S ∧ S ≤ 255) ∧ PosAt (tx s) i cs pre J S)
      (fun k _ _ _ => 19 - (intOf k).toNat)
    case atStart => exact ⟨[], i, 0, _, rfl, rfl, rfl, rfl, by decide, by omega, ⟨by decide, fun m h => absurd h (Nat.not_lt_zero _)⟩, rfl, HD.out, by simp⟩
    case round =>
      obtain ⟨pre, J, S, cs, rfl, rfl, rfl, rfl, hl, hS, hpos⟩ := hrel
      obtain ⟨v0, hv0⟩ : ∃ v0, cs[pre.length]? = some v0 := ⟨_, Array.getElem?_eq_getElem (by have := hpos.1.1; omega)⟩
      have hJi := hpos.2.2.2
      have hJs := dig_in hpos.2.2.1
      have HPos := hid hpos
      clear hpos HD
      by_cases h19 : pre.length + 1 = 19
      · have hb19 : (((pre.length : Int) + 1) == 19) = true := by rw [beq_iff_eq]; omega
        have H19 := hid h19
        clear h19
        go_wp2
        go_meet
        case rel => exact ⟨_, by rw [← pos_last HPos.out hl (.inl H19.out)]; simp, by rw [← pos_last HPos.out hl (.inl H19.out)]; exact holdsL_push HPos.out.1 hl, rfl⟩
      · have hb19 : (((pre.length : Int) + 1) == 19) = false := by rw [beq_eq_false_iff_ne]; omega
        go_upto_region 10 with fail
        go_cut [34] (fun v wx => v = .bool (digB (tx s (J + 1))) ∧ wx = w.alloc (.cells (cs.setIfInBounds pre.length (.int .i64 (J : Int))) 33))
        case first =>
          by_cases hj1 : J + 1 < s.size
          · have hx1 := tx_in hj1
            go_wp2_with (go_at_call 12; refine (isDig_any _ _).mono ?_; rintro e w' ⟨rfl, rfl⟩)
            go_meet
            case rel => exact ⟨rfl, rfl⟩
          · have HJ1 := hid hj1
            go_wp2_with (go_at_call 12; refine (isDig_any _ _).mono ?_; rintro e w' ⟨rfl, rfl⟩)
            go_meet
            case rel => exact ⟨congrArg _ (dig_out HJ1.out).symm, rfl⟩
        case rest =>
          obtain ⟨rfl, rfl⟩ := hcut
          clear hv0
          cases hq : digB (tx s (J + 1))
          · have HQ := hid hq
            go_upto_region 12 with fail
            go_cut [70] (fun v wx => v = .bool (sepB (tx s (J + 1)) S && digB (tx s (J + 2))) ∧ wx = w.alloc (.cells (cs.setIfInBounds pre.length (.int .i64 (J : Int))) 33))
            case first =>
              by_cases hj2 : J + 2 < s.size
              · have hj1 : J + 1 < s.size := by omega
                have hx1 := tx_in hj1
                have hx2 := tx_in hj2
                cases h32 : (tx s (J + 1) == 32)
                · have H32 := hid h32
                  cases h45 : (tx s (J + 1) == 45)
                  · have H45 := hid h45
                    go_wp2_with (go_at_call 12; refine (isDig_any _ _).mono ?_; rintro e w' ⟨rfl, rfl⟩)
                    go_meet
                    case rel => exact ⟨congrArg _ (sep_n1 H32.out H45.out).symm, rfl⟩
                  · have H45 := hid h45
                    cases hz : (S == 0)
                    · cases hsq : (S == tx s (J + 1))
                      · have HZ := hid hz
                        have HSQ := hid hsq
                        go_wp2_with (go_at_call 12; refine (isDig_any _ _).mono ?_; rintro e w' ⟨rfl, rfl⟩)
                        go_meet
                        case rel => exact ⟨congrArg _ (sep_n2 HZ.out HSQ.out).symm, rfl⟩
                      · have HSQ := hid hsq
                        cases hd2 : digB (tx s (J + 2))
                        · have HD2 := hid hd2
                          go_wp2_with (go_at_call 12; refine (isDig_any _ _).mono ?_; rintro e w' ⟨rfl, rfl⟩)
                          go_meet
                          case rel => exact ⟨congrArg _ ((sep_y (.inr H45.out) (.inr HSQ.out)).trans HD2.out).symm, rfl⟩
                        · have HD2 := hid hd2
                          go_wp2_with (go_at_call 12; refine (isDig_any _ _).mono ?_; rintro e w' ⟨rfl, rfl⟩)
                          go_meet
                          case rel => exact ⟨congrArg _ ((sep_y (.inr H45.out) (.inr HSQ.out)).trans HD2.out).symm, rfl⟩
                    · have HZ := hid hz
                      cases hd2 : digB (tx s (J + 2))
                      · have HD2 := hid hd2
                        go_wp2_with (go_at_call 12; refine (isDig_any _ _).mono ?_; rintro e w' ⟨rfl, rfl⟩)
                        go_meet
                        case rel => exact ⟨congrArg _ ((sep_y (.inr H45.out) (.inl HZ.out)).trans HD2.out).symm, rfl⟩
                      · have HD2 := hid hd2
                        go_wp2_with (go_at_call 12; refine (isDig_any _ _).mono ?_; rintro e w' ⟨rfl, rfl⟩)
                        go_meet
                        case rel => exact ⟨congrArg _ ((sep_y (.inr H45.out) (.inl HZ.out)).trans HD2.out).symm, rfl⟩
                · have H32 := hid h32
                  cases hz : (S == 0)
                  · cases hsq : (S == tx s (J + 1))
                    · have HZ := hid hz
                      have HSQ := hid hsq
                      go_wp2_with (go_at_call 12; refine (isDig_any _ _).mono ?_; rintro e w' ⟨rfl, rfl⟩)
                      go_meet
                      case rel => exact ⟨congrArg _ (sep_n2 HZ.out HSQ.out).symm, rfl⟩
                    · have HSQ := hid hsq
                      cases hd2 : digB (tx s (J + 2))
                      · have HD2 := hid hd2
                        go_wp2_with (go_at_call 12; refine (isDig_any _ _).mono ?_; rintro e w' ⟨rfl, rfl⟩)
                        go_meet
                        case rel => exact ⟨congrArg _ ((sep_y (.inl H32.out) (.inr HSQ.out)).trans HD2.out).symm, rfl⟩
                      · have HD2 := hid hd2
                        go_wp2_with (go_at_call 12; refine (isDig_any _ _).mono ?_; rintro e w' ⟨rfl, rfl⟩)
                        go_meet
                        case rel => exact ⟨congrArg _ ((sep_y (.inl H32.out) (.inr HSQ.out)).trans HD2.out).symm, rfl⟩
                  · have HZ := hid hz
                    cases hd2 : digB (tx s (J + 2))
                    · have HD2 := hid hd2
                      go_wp2_with (go_at_call 12; refine (isDig_any _ _).mono ?_; rintro e w' ⟨rfl, rfl⟩)
                      go_meet
                      case rel => exact ⟨congrArg _ ((sep_y (.inl H32.out) (.inl HZ.out)).trans HD2.out).symm, rfl⟩
                    · have HD2 := hid hd2
                      go_wp2_with (go_at_call 12; refine (isDig_any _ _).mono ?_; rintro e w' ⟨rfl, rfl⟩)
                      go_meet
                      case rel => exact ⟨congrArg _ ((sep_y (.inl H32.out) (.inl HZ.out)).trans HD2.out).symm, rfl⟩
              · have HJ2 := hid hj2
                go_wp2_with (go_at_call 12; refine (isDig_any _ _).mono ?_; rintro e w' ⟨rfl, rfl⟩)
                go_meet
                case rel => exact ⟨congrArg _ (sep_out HJ2.out).symm, rfl⟩
            case rest =>
              obtain ⟨rfl, rfl⟩ := hcut
              cases hsb : (sepB (tx s (J + 1)) S && digB (tx s (J + 2)))
              · have HSB := hid hsb
                go_wp2
                go_meet
                case rel => exact ⟨_, by rw [← pos_last HPos.out hl (.inr ⟨HQ.out, HSB.out⟩)]; simp, by rw [← pos_last HPos.out hl (.inr ⟨HQ.out, HSB.out⟩)]; exact holdsL_push HPos.out.1 hl, rfl⟩
              · have HSB := hid hsb
                have hj1 : J + 1 < s.size := dig_pre hsb
                have hx1 := tx_in hj1
                have hnb := tx_bd s (J + 1)
                go_wp2
                go_roundw
                case rel => exact ⟨pre ++ [J], J + 2, tx s (J + 1), _, by simp, rfl, by go_num, rfl, by simp; omega, by omega, pos_sep HPos.out h19 hl HQ.out HSB.out⟩
                case measure => simp [intOf]; omega
          · have HQ := hid hq
            go_wp2
            go_roundw
            case rel => exact ⟨pre ++ [J], J + 1, S, _, by simp, rfl, by go_num, rfl, by simp; omega, by omega, pos_dig HPos.out h19 hl HQ.out⟩
            case measure => simp [intOf]; omega
  case rest =>
    obtain ⟨cs, rfl, hh, rfl⟩ := hcut
    have hLl : (ps (tx s) i).length ≤ 19 := mpos_len _ _ _ _ _
    have hLd : ∀ x ∈ ps (tx s) i, digB (tx s x) = true := mpos_dig _ _ _ _ _ HD.out
    generalize eL : ps (tx s) i = L at *
    have EL := hid eL
    clear eL
    have HH := hid hh
    have HLd := hid hLd
    have hb0 : Below w.heap.size w (w.alloc (.cells cs 33)) := (Below.refl _ _).alloc (Nat.le_refl _) _
    have HB0 := hid hb0
    clear hh hLd hb0 HD
    go_wp2_with fail
    go_loopw [10, 11] (fun b n wr => ∃ (N : Nat) (B : Int), b = .int .i64 B ∧ n = .int .i64 N ∧ 13 ≤ N ∧ N ≤ 20 ∧ mscan (tx s) (L.take (N - 1)) (L.drop (N - 1)) B = mscan (tx s) [] L (-1) ∧ Below (w.heap.size + 1) (w.alloc (.cells cs 33)) wr)
      (fun _ n _ => 20 - (intOf n).toNat)
    case atStart => exact ⟨13, -1, rfl, rfl, by omega, by omega, mscan_few _ _ _ 12 (Nat.le_refl _), Below.refl _ _⟩
    case round =>
      obtain ⟨N, B, rfl, rfl, hN13, hN20, hscan, hb⟩ := hrel
      have hsz := hb.size
      simp at hsz
      have hlts : w.heap.size < wr.heap.size := by omega
      by_cases hlt : N ≤ L.length
      · have hst := mscan_step (tx s) L B (N - 1) (by omega)
        rw [show N - 1 + 1 = N by omega] at hst
        have hdm := HLd.out L[N - 1] (List.getElem_mem (by omega))
        have hdi := dig_in hdm
        have hcell : wr.cell? ⟨w.heap.size, N - 1, none⟩ = some (.int .i64 (L[N - 1] : Int)) := by
          rw [hb.cell (by simp)]; simp; exact HH.out.2 (N - 1) (by omega)
        have hheap : wr.heap[w.heap.size]? = some (.cells cs 33 (0, 0)) := by rw [hb.block _ (by omega)]; exact heap_alloc_new w _
        have HHp := hid hheap
        clear hheap
        generalize L[N - 1] = p at *
        have HST := hid (hst.symm.trans hscan)
        clear hst hscan hdm
        go_upto_region 20 with fail
        go_cut [95] (fun v wx => v = .bool (digB (tx s (p + 1))) ∧ wr = wx)
        case first =>
          by_cases hp1 : p + 1 < s.size
          · have hx1 := tx_in hp1
            go_wp2_with (go_at_call 12; refine (isDig_any _ _).mono ?_; rintro e w' ⟨rfl, rfl⟩)
            go_meet
            case rel => exact ⟨rfl, rfl⟩
          · have HP1 := hid hp1
            go_wp2_with (go_at_call 12; refine (isDig_any _ _).mono ?_; rintro e w' ⟨rfl, rfl⟩)
            go_meet
            case rel => exact ⟨congrArg _ (dig_out HP1.out).symm, rfl⟩
        case rest =>
          obtain ⟨rfl, rfl⟩ := hcut
          cases hq : digB (tx s (p + 1))
          · have HQ := hid hq
            go_upto_region 21 with fail
            go_wp2_with (refine wpList_load_row rfl 33 _ rfl w.heap.size rfl 33 cs (0, 0) _ HHp.out Try.underlying33 rfl (by rw [HH.out.1]; exact info33) ?_)
            have hTl : (L.take N).length = N := by rw [List.length_take]; omega
            refine (luhn_at s cs (L.take N) _ _ (by rw [hTl]) hs HH.out.1 (by omega) (by omega) (fun x hx => HLd.out x (List.mem_of_mem_take hx)) (fun m hm => by rw [List.getElem_take]; exact HH.out.2 m (by omega))).mono ?_
            rintro e w' ⟨rfl, rfl⟩
            have HTl := hid hTl
            clear hTl
            cases hlu : (luL (dg (tx s) (L.take N)) % 10 == 0)
            · have HQ2 := hid (mBest_no (e := p + 1) (b := B) hlu)
              go_wp2
              go_roundw
              case rel => exact ⟨N + 1, B, rfl, by go_num, by omega, by omega, by rw [← HST.out, HQ2.out]; rfl, hb.alloc (by omega) _⟩
              case measure => simp [intOf]; omega
            · have HQ2 := hid (mBest_yes (e := p + 1) (b := B) (by rw [HTl.out]; exact hN13) HQ.out hlu)
              go_wp2
              go_roundw
              case rel => exact ⟨N + 1, _, rfl, by go_num, by omega, by omega, by rw [← HST.out, HQ2.out]; rfl, hb.alloc (by omega) _⟩
              case measure => simp [intOf]; omega
          · have HQ := hid (mBest_dig (l := L.take N) (b := B) hq)
            go_wp2
            go_roundw
            case rel => exact ⟨N + 1, B, rfl, by go_num, by omega, by omega, by rw [← HST.out, HQ.out]; rfl, hb⟩
            case measure => simp [intOf]; omega
      · have HSC := hid ((mscan_end (tx s) L B (N - 1) (by omega)).symm.trans hscan)
        clear hscan
        go_wp2
        go_ret
        exact ⟨ret_int (by rw [EL.out]; exact HSC.out), HB0.out.trans (hb.mono (Nat.le_succ _))⟩
end Go.Proofs.Qxb6600620a
