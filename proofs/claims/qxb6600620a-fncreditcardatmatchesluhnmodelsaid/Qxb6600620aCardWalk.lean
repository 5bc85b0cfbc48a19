import Derived.Test.Qxb6600620aRows
import Derived.WalkKit
import Derived.ProofKit
import Derived.OpenShut
import Derived.ShutString
import Derived.ChangeOld
import Derived.Below
import Derived.WalkSpells
import Derived.Deep.CutRange
import Derived.Deep.DeepCutAuto
import Derived.Test.Qxb6600620aCardPlain
namespace Go.Proofs.Qxb6600620a
open Go.ChangeShapes Go.WideShapes Go.ChangeAt Go.RowKit
set_option linter.unusedVariables false

theorem hid {p : Prop} (h : p) : Hid p := h

/-- The byte at offset j of a text; 0 behind its end. -/
def tx (s : ByteArray) (j : Nat) : Int := if h : j < s.size then (s[j].toNat : Int) else 0

theorem tx_in {s : ByteArray} {j : Nat} (h : j < s.size) : (s[j].toNat : Int) = tx s j := by unfold tx; rw [dif_pos h]
theorem tx_out {s : ByteArray} {j : Nat} (h : ¬ j < s.size) : tx s j = 0 := by unfold tx; rw [dif_neg h]
theorem tx_bd (s : ByteArray) (j : Nat) : 0 ≤ tx s j ∧ tx s j ≤ 255 := by
  unfold tx
  split
  · rename_i h
    have := (s[j]'h).toNat_lt
    omega
  · omega
theorem dig_in {s : ByteArray} {j : Nat} (h : digB (tx s j) = true) : j < s.size := by
  by_cases hj : j < s.size
  · exact hj
  · rw [tx_out hj] at h; exact absurd h (by decide)
theorem dig_yes {c : Int} (h : digB c = true) : 48 ≤ c ∧ c ≤ 57 := by simpa [digB] using h
theorem dig_no {c : Int} (h : digB c = false) : ¬ (48 ≤ c ∧ c ≤ 57) := by simpa [digB] using h

theorem isDigit_any (c : Int) (w : World) : Calls Try.prog 22 #[.int .u8 c] w fun e w' => e = .returned (.bool (digB c)) ∧ w' = w := by
  by_cases h1 : 48 ≤ c
  · by_cases h2 : c ≤ 57
    · have hd : digB c = true := by simp [digB, h1, h2]
      rw [hd]
      clear hd
      go_enter Try.func22, Try.ntmps22
      go_wp2
      go_ret
      exact ⟨rfl, rfl⟩
    · have hd : digB c = false := by simp [digB, h2]
      rw [hd]
      clear hd
      go_enter Try.func22, Try.ntmps22
      go_wp2
      go_ret
      exact ⟨rfl, rfl⟩
  · have hd : digB c = false := by simp [digB, h1]
    rw [hd]
    clear hd
    go_enter Try.func22, Try.ntmps22
    go_wp2
    go_ret
    exact ⟨rfl, rfl⟩

theorem isDig_any (c : Int) (w : World) : Calls Try.prog 12 #[.int .u8 c] w fun e w' => e = .returned (.bool (digB c)) ∧ w' = w := by
  by_cases h1 : 48 ≤ c
  · by_cases h2 : c ≤ 57
    · have hd : digB c = true := by simp [digB, h1, h2]
      rw [hd]
      clear hd
      go_enter Try.func12, Try.ntmps12
      go_wp2
      go_ret
      exact ⟨rfl, rfl⟩
    · have hd : digB c = false := by simp [digB, h2]
      rw [hd]
      clear hd
      go_enter Try.func12, Try.ntmps12
      go_wp2
      go_ret
      exact ⟨rfl, rfl⟩
  · have hd : digB c = false := by simp [digB, h1]
    rw [hd]
    clear hd
    go_enter Try.func12, Try.ntmps12
    go_wp2
    go_ret
    exact ⟨rfl, rfl⟩

theorem dbl_hi {d : Int} (h : 9 < 2 * d) : dbl d = 2 * d - 9 := by unfold dbl; rw [if_pos h]
theorem dbl_lo {d : Int} (h : 2 * d ≤ 9) : dbl d = 2 * d := by unfold dbl; rw [if_neg (by omega)]
theorem dbl_bd {d : Int} (h0 : 0 ≤ d) (h9 : d ≤ 9) : 0 ≤ dbl d ∧ dbl d ≤ 9 := by unfold dbl; split <;> omega

theorem sum_bd {n : Nat} {s0 s1 d : Int} (h : 0 ≤ s0 ∧ s0 ≤ 9 * n ∧ 0 ≤ s1 ∧ s1 ≤ 9 * n) (h0 : 0 ≤ d) (h9 : d ≤ 9) (hd : 0 ≤ dbl d ∧ dbl d ≤ 9) :
    0 ≤ sumA n s0 d ∧ sumA n s0 d ≤ 9 * (n + 1) ∧ 0 ≤ sumB n s1 d ∧ sumB n s1 d ≤ 9 * (n + 1) := by
  unfold sumA sumB
  split <;> omega

theorem parity (n : Nat) (s0 s1 d : Int) :
    ((n : Int) % 2 = 0 ∧ ((n : Int) + 1) % 2 = 1 ∧ sumA n s0 d = s0 + dbl d ∧ sumB n s1 d = s1 + d ∧ ∀ x y, sumAt (n + 1) x y = y) ∨
    ((n : Int) % 2 = 1 ∧ ((n : Int) + 1) % 2 = 0 ∧ sumA n s0 d = s0 + d ∧ sumB n s1 d = s1 + dbl d ∧ ∀ x y, sumAt (n + 1) x y = x) := by
  unfold sumA sumB sumAt
  by_cases h : n % 2 = 0
  · exact .inl ⟨by omega, by omega, by rw [if_pos h], by rw [if_pos h], fun x y => by rw [if_neg (by omega)]⟩
  · exact .inr ⟨by omega, by omega, by rw [if_neg h], by rw [if_neg h], fun x y => by rw [if_pos (by omega)]⟩

/-- The test ahead of 'best = j'. -/
def bestB (t : Nat → Int) (n j : Nat) (s0 s1 : Int) : Bool := decide (13 ≤ n ∧ digB (t j) = false ∧ sumAt n s0 s1 % 10 = 0)
theorem bestAt_yes (t : Nat → Int) (n j : Nat) (s0 s1 b : Int) (h : bestB t n j s0 s1 = true) : bestAt t n j s0 s1 b = (j : Int) := by
  unfold bestAt; rw [if_pos (of_decide_eq_true h)]
theorem bestAt_no (t : Nat → Int) (n j : Nat) (s0 s1 b : Int) (h : bestB t n j s0 s1 = false) : bestAt t n j s0 s1 b = b := by
  unfold bestAt; rw [if_neg (of_decide_eq_false h)]
theorem bestB_few (t : Nat → Int) (n j : Nat) (s0 s1 : Int) (h : ¬ 13 ≤ n) : bestB t n j s0 s1 = false := by simp [bestB, h]
theorem bestB_dig (t : Nat → Int) (n j : Nat) (s0 s1 : Int) (h : digB (t j) = true) : bestB t n j s0 s1 = false := by simp [bestB, h]
theorem bestB_eq (t : Nat → Int) (n j : Nat) (s0 s1 : Int) {x : Int} {q : Bool} (e : sumAt n s0 s1 = x) (h : 13 ≤ n) (hd : digB (t j) = false) (hm : (x % 10 == 0) = q) : bestB t n j s0 s1 = q := by
  subst e hm
  simp [bestB, h, hd]
  rfl

section
variable {t : Nat → Int} {N J : Nat} {S s0 s1 B A C Bt : Int}
theorem step_last (hA : sumA N s0 (t J - 48) = A) (hC : sumB N s1 (t J - 48) = C) (hB : bestAt t (N + 1) (J + 1) A C B = Bt) (h : N + 1 = 19) : ccGo t (19 - N) N J S s0 s1 B = Bt := by
  rw [show 19 - N = 0 + 1 by omega, ccGo, hA, hC, hB, if_pos h]
theorem step_dig (hA : sumA N s0 (t J - 48) = A) (hC : sumB N s1 (t J - 48) = C) (hB : bestAt t (N + 1) (J + 1) A C B = Bt) (h : ¬ N + 1 = 19) (hq : digB (t (J + 1)) = true) (hN : N < 19) :
    ccGo t (19 - N) N J S s0 s1 B = ccGo t (19 - (N + 1)) (N + 1) (J + 1) S A C Bt := by
  rw [show 19 - N = (19 - (N + 1)) + 1 by omega, ccGo, hA, hC, hB, if_neg h, if_pos hq]
theorem step_sep (hA : sumA N s0 (t J - 48) = A) (hC : sumB N s1 (t J - 48) = C) (hB : bestAt t (N + 1) (J + 1) A C B = Bt) (h : ¬ N + 1 = 19) (hq : digB (t (J + 1)) = false) (hs : (sepB (t (J + 1)) S && digB (t (J + 2))) = true) (hN : N < 19) :
    ccGo t (19 - N) N J S s0 s1 B = ccGo t (19 - (N + 1)) (N + 1) (J + 2) (t (J + 1)) A C Bt := by
  rw [show 19 - N = (19 - (N + 1)) + 1 by omega, ccGo, hA, hC, hB, if_neg h, if_neg (by rw [hq]; decide), if_pos hs]
theorem step_end (hA : sumA N s0 (t J - 48) = A) (hC : sumB N s1 (t J - 48) = C) (hB : bestAt t (N + 1) (J + 1) A C B = Bt) (h : ¬ N + 1 = 19) (hq : digB (t (J + 1)) = false) (hs : (sepB (t (J + 1)) S && digB (t (J + 2))) = false) (hN : N < 19) :
    ccGo t (19 - N) N J S s0 s1 B = Bt := by
  rw [show 19 - N = (19 - (N + 1)) + 1 by omega, ccGo, hA, hC, hB, if_neg h, if_neg (by rw [hq]; decide), if_neg (by rw [hs]; decide)]
end

theorem sep_n1 {c sp : Int} {x : Bool} (h32 : (c == 32) = false) (h45 : (c == 45) = false) : (sepB c sp && x) = false := by
  rw [beq_eq_false_iff_ne] at h32 h45
  simp [sepB, h32, h45]
theorem sep_n2 {c sp : Int} {x : Bool} (h0 : (sp == 0) = false) (h1 : (sp == c) = false) : (sepB c sp && x) = false := by
  rw [beq_eq_false_iff_ne] at h0 h1
  simp [sepB, h0, h1]
theorem sep_y {c sp : Int} {x : Bool} (h : (c == 32) = true ∨ (c == 45) = true) (h' : (sp == 0) = true ∨ (sp == c) = true) : (sepB c sp && x) = x := by
  have e : sepB c sp = true := by
    simp only [beq_iff_eq] at h h'
    rcases h with h | h <;> rcases h' with h' | h' <;> simp [sepB, h, h']
  rw [e]; rfl
theorem dig_out {s : ByteArray} {j : Nat} (h : ¬ j < s.size) : digB (tx s j) = false := by rw [tx_out h]; decide

theorem ret_int {k : IntKind} {a b : Int} (h : a = b) : Ending.returned (.int k a) = .returned (.int k b) := by rw [h]

set_option maxHeartbeats 1000000 in
set_option maxRecDepth 100000 in
theorem card_any (s : ByteArray) (i : Nat) (w : World) (hs : s.size ≤ 1048576) (hd : digB (tx s i) = true) :
    Calls Try.prog 20 #[.string s, .int .i64 i] w fun e w' => e = .returned (.int .i64 (ccAt (tx s) i)) ∧ ∃ cs, w' = w.alloc (.cells cs 35) := by
  have hi := dig_in hd
  have HD := hid hd
  clear hd
  go_enter Try.func20, Try.ntmps20
  go_wp2_with fail
  go_loopw [6, 7, 8, 9] (fun sp b n j wr => ∃ (N J : Nat) (S s0 s1 B : Int), sp = .int .u8 S ∧ b = .int .i64 B ∧ n = .int .i64 N ∧ j = .int .i64 J ∧ wr = w.alloc (.cells #[.int .i64 s0, .int .i64 s1] 35) ∧
      N < 19 ∧ J ≤ i + 2 * N ∧ (0 ≤ s0 ∧ s0 ≤ 9 * N ∧ 0 ≤ s1 ∧ s1 ≤ 9 * N) ∧ (0 ≤ S ∧ S ≤ 255) ∧ digB (tx s J) = true ∧ ccGo (tx s) (19 - N) N J S s0 s1 B = ccAt (tx s) i)
    (fun _ _ n _ _ => 19 - (intOf n).toNat)
  case atStart => exact ⟨0, i, 0, 0, 0, -1, rfl, rfl, rfl, rfl, rfl, by omega, by omega, by omega, by omega, HD.out, rfl⟩
  case round =>
    obtain ⟨N, J, S, s0, s1, B, rfl, rfl, rfl, rfl, rfl, hN, hJ, hss, hS, hdig, hgo⟩ := hrel
    have hJs := dig_in hdig
    have hdy := dig_yes hdig
    have hx := tx_in hJs
    have hdb := dbl_bd (d := tx s J - 48) (by omega) (by omega)
    have HG := hid hgo
    have HDG := hid hdig
    clear hgo hdig HD
    go_upto_if 22 with fail
    go_cut [11] (fun v wx => v = .int .i64 (dbl (tx s J - 48)) ∧ wx = w.alloc (.cells #[.int .i64 s0, .int .i64 s1] 35))
    case first =>
      by_cases h9 : 9 < 2 * (tx s J - 48)
      · go_wp2
        go_meet
        case rel => exact ⟨congrArg _ (dbl_hi h9).symm, rfl⟩
      · go_wp2
        go_meet
        case rel => exact ⟨congrArg _ (dbl_lo (by omega)).symm, rfl⟩
    case rest =>
      obtain ⟨rfl, rfl⟩ := hcut
      have hAB := sum_bd (n := N) (s0 := s0) (s1 := s1) (d := tx s J - 48) hss (by omega) (by omega) hdb
      generalize eA : sumA N s0 (tx s J - 48) = A at *
      generalize eB : sumB N s1 (tx s J - 48) = C at *
      have EA := hid eA
      have EB := hid eB
      clear eA eB
      rcases parity N s0 s1 (tx s J - 48) with ⟨hp, hp1, e0, e1, e2⟩ | ⟨hp, hp1, e0, e1, e2⟩
      all_goals
        have E0 := hid e0
        have E1 := hid e1
        have E2 := hid e2
        clear e0 e1 e2
        go_upto_if 47 with fail
        go_cut [12] (fun v wx => v = .int .u8 (tx s (J + 1)) ∧ wx = w.alloc (.cells #[.int .i64 A, .int .i64 C] 35))
        case first =>
          rw [← E0.out, ← E1.out, EA.out, EB.out]
          by_cases hj1 : J + 1 < s.size
          · have hx1 := tx_in hj1
            go_wp2
            go_meet
            case rel => exact ⟨rfl, rfl⟩
          · have hx1 := hid (tx_out hj1)
            go_wp2
            go_meet
            case rel => exact ⟨congrArg _ hx1.out.symm, rfl⟩
        case rest =>
          obtain ⟨rfl, rfl⟩ := hcut
          have hnb := tx_bd s (J + 1)
          clear hx hdy hdb hss
          go_upto_region 15 with fail
          go_cut [65] (fun v wx => v = .bool (bestB (tx s) (N + 1) (J + 1) A C) ∧ wx = w.alloc (.cells #[.int .i64 A, .int .i64 C] 35))
          case first =>
            by_cases h13 : 13 ≤ N + 1
            · cases hq : digB (tx s (J + 1))
              · cases hm10 : (sumAt (N + 1) A C % 10 == 0)
                all_goals
                  rw [E2.out A C] at hm10
                  go_wp2_with (go_at_call 22; refine (isDigit_any _ _).mono ?_; rintro e w' ⟨rfl, rfl⟩)
                  go_meet
                  case rel => exact ⟨congrArg _ (bestB_eq _ _ _ _ _ (E2.out A C) h13 hq hm10).symm, rfl⟩
              · go_wp2_with (go_at_call 22; refine (isDigit_any _ _).mono ?_; rintro e w' ⟨rfl, rfl⟩)
                go_meet
                case rel => exact ⟨congrArg _ (bestB_dig _ _ _ _ _ hq).symm, rfl⟩
            · go_wp2_with (go_at_call 22; refine (isDigit_any _ _).mono ?_; rintro e w' ⟨rfl, rfl⟩)
              go_meet
              case rel => exact ⟨congrArg _ (bestB_few _ _ _ _ _ (by omega)).symm, rfl⟩
          case rest =>
            obtain ⟨rfl, rfl⟩ := hcut
            clear E0 E1 E2 hp hp1
            go_upto_if 65 with fail
            go_cut [7] (fun v wx => v = .int .i64 (bestAt (tx s) (N + 1) (J + 1) A C B) ∧ wx = w.alloc (.cells #[.int .i64 A, .int .i64 C] 35))
            case first =>
              cases hbb : bestB (tx s) (N + 1) (J + 1) A C
              · go_wp2
                go_meet
                case rel => exact ⟨congrArg _ (bestAt_no _ _ _ _ _ _ hbb).symm, rfl⟩
              · go_wp2
                go_meet
                case rel => exact ⟨congrArg _ (bestAt_yes _ _ _ _ _ _ hbb).symm, rfl⟩
            case rest =>
              obtain ⟨rfl, rfl⟩ := hcut
              generalize eBt : bestAt (tx s) (N + 1) (J + 1) A C B = Bt at *
              have EBt := hid eBt
              clear eBt
              by_cases h19 : N + 1 = 19
              · have hb19 : (((N : Int) + 1) == 19) = true := by rw [beq_iff_eq]; omega
                have H19 := hid h19
                clear h19
                go_wp2
                go_ret
                exact ⟨ret_int (HG.out.symm.trans (step_last EA.out EB.out EBt.out H19.out)).symm, _, rfl⟩
              · have hb19 : (((N : Int) + 1) == 19) = false := by rw [beq_eq_false_iff_ne]; omega
                cases hq : digB (tx s (J + 1))
                · go_upto_region 21 with (go_at_call 22; refine (isDigit_any _ _).mono ?_; rintro e w' ⟨rfl, rfl⟩)
                  go_cut [75] (fun v wx => v = .bool (sepB (tx s (J + 1)) S && digB (tx s (J + 2))) ∧ wx = w.alloc (.cells #[.int .i64 A, .int .i64 C] 35))
                  case first =>
                    cases h32 : (tx s (J + 1) == 32)
                    · have H32 := hid h32
                      cases h45 : (tx s (J + 1) == 45)
                      · have H45 := hid h45
                        go_wp2_with (go_at_call 22; refine (isDigit_any _ _).mono ?_; rintro e w' ⟨rfl, rfl⟩)
                        go_meet
                        case rel => exact ⟨congrArg _ (sep_n1 H32.out H45.out).symm, rfl⟩
                      · have H45 := hid h45
                        cases hz : (S == 0)
                        · cases hsq : (S == tx s (J + 1))
                          · have HZ := hid hz
                            have HSQ := hid hsq
                            go_wp2_with (go_at_call 22; refine (isDigit_any _ _).mono ?_; rintro e w' ⟨rfl, rfl⟩)
                            go_meet
                            case rel => exact ⟨congrArg _ (sep_n2 HZ.out HSQ.out).symm, rfl⟩
                          · have HSQ := hid hsq
                            by_cases hj2 : J + 2 < s.size
                            · have hx2 := tx_in hj2
                              cases hd2 : digB (tx s (J + 2))
                              · have HD2 := hid hd2
                                go_wp2_with (go_at_call 22; refine (isDigit_any _ _).mono ?_; rintro e w' ⟨rfl, rfl⟩)
                                go_meet
                                case rel => exact ⟨congrArg _ ((sep_y (.inr H45.out) (.inr HSQ.out)).trans HD2.out).symm, rfl⟩
                              · have HD2 := hid hd2
                                go_wp2_with (go_at_call 22; refine (isDigit_any _ _).mono ?_; rintro e w' ⟨rfl, rfl⟩)
                                go_meet
                                case rel => exact ⟨congrArg _ ((sep_y (.inr H45.out) (.inr HSQ.out)).trans HD2.out).symm, rfl⟩
                            · have HJ2 := hid hj2
                              go_wp2_with (go_at_call 22; refine (isDigit_any _ _).mono ?_; rintro e w' ⟨rfl, rfl⟩)
                              go_meet
                              case rel => exact ⟨congrArg _ ((sep_y (.inr H45.out) (.inr HSQ.out)).trans (dig_out HJ2.out)).symm, rfl⟩
                        · have HZ := hid hz
                          by_cases hj2 : J + 2 < s.size
                          · have hx2 := tx_in hj2
                            cases hd2 : digB (tx s (J + 2))
                            · have HD2 := hid hd2
                              go_wp2_with (go_at_call 22; refine (isDigit_any _ _).mono ?_; rintro e w' ⟨rfl, rfl⟩)
                              go_meet
                              case rel => exact ⟨congrArg _ ((sep_y (.inr H45.out) (.inl HZ.out)).trans HD2.out).symm, rfl⟩
                            · have HD2 := hid hd2
                              go_wp2_with (go_at_call 22; refine (isDigit_any _ _).mono ?_; rintro e w' ⟨rfl, rfl⟩)
                              go_meet
                              case rel => exact ⟨congrArg _ ((sep_y (.inr H45.out) (.inl HZ.out)).trans HD2.out).symm, rfl⟩
                          · have HJ2 := hid hj2
                            go_wp2_with (go_at_call 22; refine (isDigit_any _ _).mono ?_; rintro e w' ⟨rfl, rfl⟩)
                            go_meet
                            case rel => exact ⟨congrArg _ ((sep_y (.inr H45.out) (.inl HZ.out)).trans (dig_out HJ2.out)).symm, rfl⟩
                    · have H32 := hid h32
                      cases hz : (S == 0)
                      · cases hsq : (S == tx s (J + 1))
                        · have HZ := hid hz
                          have HSQ := hid hsq
                          go_wp2_with (go_at_call 22; refine (isDigit_any _ _).mono ?_; rintro e w' ⟨rfl, rfl⟩)
                          go_meet
                          case rel => exact ⟨congrArg _ (sep_n2 HZ.out HSQ.out).symm, rfl⟩
                        · have HSQ := hid hsq
                          by_cases hj2 : J + 2 < s.size
                          · have hx2 := tx_in hj2
                            cases hd2 : digB (tx s (J + 2))
                            · have HD2 := hid hd2
                              go_wp2_with (go_at_call 22; refine (isDigit_any _ _).mono ?_; rintro e w' ⟨rfl, rfl⟩)
                              go_meet
                              case rel => exact ⟨congrArg _ ((sep_y (.inl H32.out) (.inr HSQ.out)).trans HD2.out).symm, rfl⟩
                            · have HD2 := hid hd2
                              go_wp2_with (go_at_call 22; refine (isDigit_any _ _).mono ?_; rintro e w' ⟨rfl, rfl⟩)
                              go_meet
                              case rel => exact ⟨congrArg _ ((sep_y (.inl H32.out) (.inr HSQ.out)).trans HD2.out).symm, rfl⟩
                          · have HJ2 := hid hj2
                            go_wp2_with (go_at_call 22; refine (isDigit_any _ _).mono ?_; rintro e w' ⟨rfl, rfl⟩)
                            go_meet
                            case rel => exact ⟨congrArg _ ((sep_y (.inl H32.out) (.inr HSQ.out)).trans (dig_out HJ2.out)).symm, rfl⟩
                      · have HZ := hid hz
                        by_cases hj2 : J + 2 < s.size
                        · have hx2 := tx_in hj2
                          cases hd2 : digB (tx s (J + 2))
                          · have HD2 := hid hd2
                            go_wp2_with (go_at_call 22; refine (isDigit_any _ _).mono ?_; rintro e w' ⟨rfl, rfl⟩)
                            go_meet
                            case rel => exact ⟨congrArg _ ((sep_y (.inl H32.out) (.inl HZ.out)).trans HD2.out).symm, rfl⟩
                          · have HD2 := hid hd2
                            go_wp2_with (go_at_call 22; refine (isDigit_any _ _).mono ?_; rintro e w' ⟨rfl, rfl⟩)
                            go_meet
                            case rel => exact ⟨congrArg _ ((sep_y (.inl H32.out) (.inl HZ.out)).trans HD2.out).symm, rfl⟩
                        · have HJ2 := hid hj2
                          go_wp2_with (go_at_call 22; refine (isDigit_any _ _).mono ?_; rintro e w' ⟨rfl, rfl⟩)
                          go_meet
                          case rel => exact ⟨congrArg _ ((sep_y (.inl H32.out) (.inl HZ.out)).trans (dig_out HJ2.out)).symm, rfl⟩
                  case rest =>
                    obtain ⟨rfl, rfl⟩ := hcut
                    cases hsb : (sepB (tx s (J + 1)) S && digB (tx s (J + 2)))
                    · go_wp2
                      go_ret
                      exact ⟨ret_int (HG.out.symm.trans (step_end EA.out EB.out EBt.out h19 hq hsb hN)).symm, _, rfl⟩
                    · have HSB := hid hsb
                      go_wp2
                      go_roundw
                      case rel => exact ⟨N + 1, J + 2, tx s (J + 1), A, C, Bt, rfl, rfl, by go_num, by go_num, rfl, by omega, by omega, by omega, by omega, (Bool.and_eq_true _ _ ▸ HSB.out).2, (step_sep EA.out EB.out EBt.out h19 hq HSB.out hN).symm.trans HG.out⟩
                      case measure => simp [intOf]; omega
                · have HQ := hid hq
                  go_wp2_with (go_at_call 22; refine (isDigit_any _ _).mono ?_; rintro e w' ⟨rfl, rfl⟩)
                  go_roundw
                  case rel => exact ⟨N + 1, J + 1, S, A, C, Bt, rfl, rfl, by go_num, by go_num, rfl, by omega, by omega, by omega, by omega, HQ.out, (step_dig EA.out EB.out EBt.out h19 HQ.out hN).symm.trans HG.out⟩
                  case measure => simp [intOf]; omega
end Go.Proofs.Qxb6600620a
