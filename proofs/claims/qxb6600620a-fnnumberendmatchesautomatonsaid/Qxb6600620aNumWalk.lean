import Derived.Test.Qxb6600620aRows
import Derived.WalkKit
import Derived.ProofKit
import Derived.OpenShut
import Derived.ShutString
import Derived.ChangeOld
import Derived.Below
import Derived.WalkSpells
import Derived.Deep.CutRange
import Derived.Deep.CutBlock
import Derived.Deep.DeepCutAuto
import Derived.Test.Qxb6600620aNumPlain
namespace Go.Proofs.Qxb6600620a.Num
open Go.ChangeShapes Go.WideShapes Go.ChangeAt Go.RowKit
set_option linter.unusedVariables false

theorem hid {p : Prop} (h : p) : Hid p := h
theorem ret_int {k : IntKind} {a b : Int} (h : a = b) : Ending.returned (.int k a) = .returned (.int k b) := by rw [h]

theorem isDigit_any (c : Int) (w : World) : Calls Try.prog 22 #[.int .u8 c] w fun e w' => e = .returned (.bool (digB c)) ∧ w' = w := by
  by_cases h1 : 48 ≤ c
  · by_cases h2 : c ≤ 57
    · have hd : digB c = true := by simp [digB, h1, h2]
      rw [hd]
      clear hd
      go_enter Try.func22, Try.ntmps22
      go_wp2
      go_ret
      exact ⟨rfl, rfl⟩
    · have hd : digB c = false := by simp [digB, h2]
      rw [hd]
      clear hd
      go_enter Try.func22, Try.ntmps22
      go_wp2
      go_ret
      exact ⟨rfl, rfl⟩
  · have hd : digB c = false := by simp [digB, h1]
    rw [hd]
    clear hd
    go_enter Try.func22, Try.ntmps22
    go_wp2
    go_ret
    exact ⟨rfl, rfl⟩

theorem isDig_any (c : Int) (w : World) : Calls Try.prog 12 #[.int .u8 c] w fun e w' => e = .returned (.bool (digB c)) ∧ w' = w := by
  by_cases h1 : 48 ≤ c
  · by_cases h2 : c ≤ 57
    · have hd : digB c = true := by simp [digB, h1, h2]
      rw [hd]
      clear hd
      go_enter Try.func12, Try.ntmps12
      go_wp2
      go_ret
      exact ⟨rfl, rfl⟩
    · have hd : digB c = false := by simp [digB, h2]
      rw [hd]
      clear hd
      go_enter Try.func12, Try.ntmps12
      go_wp2
      go_ret
      exact ⟨rfl, rfl⟩
  · have hd : digB c = false := by simp [digB, h1]
    rw [hd]
    clear hd
    go_enter Try.func12, Try.ntmps12
    go_wp2
    go_ret
    exact ⟨rfl, rfl⟩

/-- The L bytes in block g are the text t, which is 0 behind them. -/
structure Seg (w : World) (g L : Nat) (t : Nat → Int) : Prop where
  cell : ∀ k, k < L → w.cell? ⟨g, k, none⟩ = some (.int .u8 (t k))
  past : ∀ k, L ≤ k → t k = 0
  len : L ≤ 1048576

theorem Seg.dig {w : World} {g L : Nat} {t : Nat → Int} (h : Seg w g L t) {k : Nat} (hd : digB (t k) = true) : k < L := by
  by_cases hk : k < L
  · exact hk
  · rw [h.past k (by omega)] at hd; exact absurd hd (by decide)

/-- The digits at j end within the text. -/
theorem Seg.end_le {w : World} {g L : Nat} {t : Nat → Int} {E : Nat → Nat} (h : Seg w g L t) (hE : Ends t E) {j : Nat} (hj : j ≤ L) : E j ≤ L := by
  obtain ⟨h1, h2, h3⟩ := hE j
  by_cases e : E j ≤ L
  · exact e
  · have := h2 (E j - 1) (by omega) (by omega)
    have := h.dig this
    omega

theorem neAt_no {t : Nat → Int} {E : Nat → Nat} {i : Nat} (h : (t i == 45) = false) : neAt t E i = neInt t E i := by
  rw [beq_eq_false_iff_ne] at h; unfold neAt; rw [if_neg h]
theorem neAt_yes {t : Nat → Int} {E : Nat → Nat} {i : Nat} (h : (t i == 45) = true) : neAt t E i = neInt t E (i + 1) := by
  rw [beq_iff_eq] at h; unfold neAt; rw [if_pos h]

/-- What digitsEnd answers. -/
def endOr (E : Nat → Nat) (i : Nat) : Int := if E i = i then -1 else (E i : Int)

set_option maxHeartbeats 400000 in
set_option maxRecDepth 100000 in
theorem digitsEnd_any (g L cap : Nat) (t : Nat → Int) (E : Nat → Nat) (x : Int) (i : Nat) (w : World) (hx : x = i) (hs : Seg w g L t) (hE : Ends t E) (hi : i ≤ L) :
    Calls Try.prog 23 #[.slice (some ⟨g, 0, none⟩) L cap, .int .i64 x] w fun e w' => e = .returned (.int .i64 (endOr E i)) ∧ w' = w := by
  subst hx
  have hL := hs.len
  have hEi := hE i
  have hEL := hs.end_le hE hi
  have HS := hid hs
  have HE := hid hEi
  obtain ⟨hE1, _, _⟩ := hEi
  clear hs hE
  go_enter Try.func23, Try.ntmps23
  go_wp2_with fail
  go_loop [1] (fun v => ∃ k : Nat, v = .int .i64 k ∧ i ≤ k ∧ k ≤ E i) (fun v => E i - (intOf v).toNat)
  case atStart => exact ⟨i, rfl, Nat.le_refl _, hE1⟩
  case round =>
    obtain ⟨k, rfl, hk1, hk2⟩ := hrel
    by_cases hlt : k < E i
    · have hd := HE.out.2.1 k hk1 hlt
      have hkL := HS.out.dig hd
      have hc := HS.out.cell k hkL
      go_wp2_with (go_at_call 22; refine (isDigit_any _ _).mono ?_; rintro e w' ⟨rfl, rfl⟩)
      go_round
      case rel => exact ⟨k + 1, by go_num, by omega, by omega⟩
      case measure => simp [intOf]; omega
    · have hke : k = E i := by omega
      have hd := HE.out.2.2
      rw [← hke] at hd
      by_cases hki : k = i
      · have hkk : E i = i := by omega
        have HR := hid (show (-1 : Int) = endOr E i by unfold endOr; rw [if_pos hkk])
        have hb : ((k : Int) == (i : Int)) = true := by rw [beq_iff_eq]; omega
        clear hki hkk hke hlt
        by_cases hkL : k < L
        · have hc := HS.out.cell k hkL
          go_wp2_with (go_at_call 22; refine (isDigit_any _ _).mono ?_; rintro e w' ⟨rfl, rfl⟩)
          go_ret
          exact ⟨ret_int HR.out, rfl⟩
        · go_wp2_with (go_at_call 22; refine (isDigit_any _ _).mono ?_; rintro e w' ⟨rfl, rfl⟩)
          go_ret
          exact ⟨ret_int HR.out, rfl⟩
      · have hkk : ¬ E i = i := by omega
        have HR := hid (show (k : Int) = endOr E i by unfold endOr; rw [if_neg hkk, ← hke])
        have hb : ((k : Int) == (i : Int)) = false := by rw [beq_eq_false_iff_ne]; omega
        clear hkk hke hlt
        by_cases hkL : k < L
        · have hc := HS.out.cell k hkL
          go_wp2_with (go_at_call 22; refine (isDigit_any _ _).mono ?_; rintro e w' ⟨rfl, rfl⟩)
          go_ret
          exact ⟨ret_int HR.out, rfl⟩
        · go_wp2_with (go_at_call 22; refine (isDigit_any _ _).mono ?_; rintro e w' ⟨rfl, rfl⟩)
          go_ret
          exact ⟨ret_int HR.out, rfl⟩

theorem digitsEnd_yes (g L cap : Nat) (t : Nat → Int) (E : Nat → Nat) (x : Int) (i : Nat) (w : World) (hx : x = i) (hs : Seg w g L t) (hE : Ends t E) (hi : i ≤ L) (h : ¬ E i = i) :
    Calls Try.prog 23 #[.slice (some ⟨g, 0, none⟩) L cap, .int .i64 x] w fun e w' => e = .returned (.int .i64 (E i : Int)) ∧ w' = w := by
  have e : endOr E i = (E i : Int) := by unfold endOr; rw [if_neg h]
  rw [← e]
  exact digitsEnd_any g L cap t E x i w hx hs hE hi

theorem digitsEnd_no (g L cap : Nat) (t : Nat → Int) (E : Nat → Nat) (x : Int) (i : Nat) (w : World) (hx : x = i) (hs : Seg w g L t) (hE : Ends t E) (hi : i ≤ L) (h : E i = i) :
    Calls Try.prog 23 #[.slice (some ⟨g, 0, none⟩) L cap, .int .i64 x] w fun e w' => e = .returned (.int .i64 (-1)) ∧ w' = w := by
  have e : endOr E i = -1 := by unfold endOr; rw [if_pos h]
  rw [← e]
  exact digitsEnd_any g L cap t E x i w hx hs hE hi

theorem end_ne {t : Nat → Int} {E : Nat → Nat} (hE : Ends t E) {k : Nat} (h : digB (t k) = true) : ¬ E k = k := by
  obtain ⟨_, _, h3⟩ := hE k
  intro e
  rw [e, h] at h3
  cases h3

theorem Seg.lt_of_eq {w : World} {g L : Nat} {t : Nat → Int} (h : Seg w g L t) {k : Nat} {c : Int} (hk : (t k == c) = true) (hc : c ≠ 0) : k + 1 ≤ L := by
  by_cases hL : k < L
  · omega
  · rw [h.past k (by omega), beq_iff_eq] at hk; exact absurd hk.symm hc

theorem Seg.lt_of_exp {w : World} {g L : Nat} {t : Nat → Int} (h : Seg w g L t) {k : Nat} (hk : ((t k == 101) || (t k == 69)) = true) : k + 1 ≤ L := by
  rw [Bool.or_eq_true] at hk
  rcases hk with hk | hk <;> exact h.lt_of_eq hk (by decide)

theorem Seg.lt_of_sign {w : World} {g L : Nat} {t : Nat → Int} (h : Seg w g L t) {k : Nat} (hk : ((t k == 43) || (t k == 45)) = true) : k + 1 ≤ L := by
  rw [Bool.or_eq_true] at hk
  rcases hk with hk | hk <;> exact h.lt_of_eq hk (by decide)

section
variable {t : Nat → Int} {E : Nat → Nat} {k : Nat}
theorem neInt_none (h : (t k == 48) = false) (hd : digB (t k) = false) : neInt t E k = -1 := by
  rw [beq_eq_false_iff_ne] at h; unfold neInt; rw [if_neg h, if_neg (by rw [hd]; decide)]
theorem neInt_dig (h : (t k == 48) = false) (hd : digB (t k) = true) : neInt t E k = neFrac t E (E k) := by
  rw [beq_eq_false_iff_ne] at h; unfold neInt; rw [if_neg h, if_pos hd]
theorem neInt_zero (h : (t k == 48) = true) : neInt t E k = neFrac t E (k + 1) := by
  rw [beq_iff_eq] at h; unfold neInt; rw [if_pos h]
theorem neInt_past (h : t k = 0) : neInt t E k = -1 := by
  unfold neInt; rw [h, if_neg (by decide), if_neg (by decide)]
theorem neFrac_no (h : (t k == 46) = false) : neFrac t E k = neExp t E k := by
  rw [beq_eq_false_iff_ne] at h; unfold neFrac; rw [if_neg h]
theorem neFrac_bad (h : (t k == 46) = true) (he : E (k + 1) = k + 1) : neFrac t E k = -1 := by
  rw [beq_iff_eq] at h; unfold neFrac; rw [if_pos h, if_pos he]
theorem neFrac_yes (h : (t k == 46) = true) (he : ¬ E (k + 1) = k + 1) : neFrac t E k = neExp t E (E (k + 1)) := by
  rw [beq_iff_eq] at h; unfold neFrac; rw [if_pos h, if_neg he]
theorem or_false {a x y : Int} (h : ((a == x) || (a == y)) = false) : ¬ (a = x ∨ a = y) := by
  rw [Bool.or_eq_false_iff, beq_eq_false_iff_ne, beq_eq_false_iff_ne] at h; rintro (e | e); exact h.1 e; exact h.2 e
theorem or_true {a x y : Int} (h : ((a == x) || (a == y)) = true) : a = x ∨ a = y := by
  rw [Bool.or_eq_true, beq_iff_eq, beq_iff_eq] at h; exact h
theorem neExp_no (h : ((t k == 101) || (t k == 69)) = false) : neExp t E k = k := by unfold neExp; rw [if_neg (or_false h)]
theorem neExp_bare (h : ((t k == 101) || (t k == 69)) = true) (hg : ((t (k + 1) == 43) || (t (k + 1) == 45)) = false) : neExp t E k = endOr E (k + 1) := by
  unfold neExp; rw [if_pos (or_true h), if_neg (or_false hg)]; rfl
theorem neExp_sign (h : ((t k == 101) || (t k == 69)) = true) (hg : ((t (k + 1) == 43) || (t (k + 1) == 45)) = true) : neExp t E k = endOr E (k + 2) := by
  unfold neExp; rw [if_pos (or_true h), if_pos (or_true hg)]; rfl
end

set_option maxHeartbeats 1000000 in
set_option maxRecDepth 100000 in
theorem numberEnd_any (g L cap : Nat) (t : Nat → Int) (E : Nat → Nat) (x : Int) (i : Nat) (w : World) (hx : x = i) (hs : Seg w g L t) (hE : Ends t E) (hi : i < L) :
    Calls Try.prog 17 #[.slice (some ⟨g, 0, none⟩) L cap, .int .i64 x] w fun e w' => e = .returned (.int .i64 (neAt t E i)) ∧ w' = w := by
  subst hx
  have hL := hs.len
  have hc := hs.cell i hi
  have HS := hid hs
  have HE := hid hE
  clear hs hE
  go_enter Try.func17, Try.ntmps17
  go_upto_if 9 with fail
  go_cut [1] (fun v wx => ∃ k : Nat, v = .int .i64 k ∧ k ≤ L ∧ neInt t E k = neAt t E i ∧ w = wx)
  case first =>
    cases h45 : (t i == 45)
    · have H := hid h45
      go_wp2
      go_meet
      case rel => exact ⟨i, rfl, by omega, (neAt_no H.out).symm, rfl⟩
    · have H := hid h45
      go_wp2
      go_meet
      case rel => exact ⟨i + 1, by go_num, by omega, (neAt_yes H.out).symm, rfl⟩
  case rest =>
    obtain ⟨k, rfl, hk, hne, rfl⟩ := hcut
    have HN := hid hne
    clear hne hc
    go_upto_block 0 with fail
    go_cut [1] (fun v wx => ∃ m : Nat, v = .int .i64 m ∧ m ≤ L ∧ neFrac t E m = neAt t E i ∧ w = wx)
    case first =>
      by_cases hkL : k < L
      · have hb : ((k : Int) == (L : Int)) = false := by rw [beq_eq_false_iff_ne]; omega
        have hc := HS.out.cell k hkL
        cases h48 : (t k == 48)
        · have H48 := hid h48
          cases hd : digB (t k)
          · have HD := hid hd
            go_wp2_with (go_at_call 22; refine (isDigit_any _ _).mono ?_; rintro e w' ⟨rfl, rfl⟩)
            go_ret
            exact ⟨ret_int ((neInt_none H48.out HD.out).symm.trans HN.out), rfl⟩
          · have HD := hid hd
            have hEk := end_ne HE.out hd
            have HEk := hid hEk
            clear hEk
            go_wp2_with (first | (go_at_call 22; refine (isDigit_any _ _).mono ?_; rintro e w' ⟨rfl, rfl⟩) | (go_at_call 23; refine (digitsEnd_yes g L cap t E _ k _ rfl HS.out HE.out hk HEk.out).mono ?_; rintro e w' ⟨rfl, rfl⟩))
            go_meet
            case rel => exact ⟨E k, rfl, HS.out.end_le HE.out hk, (neInt_dig H48.out HD.out).symm.trans HN.out, rfl⟩
        · have H48 := hid h48
          go_wp2
          go_meet
          case rel => exact ⟨k + 1, by go_num, by omega, (neInt_zero H48.out).symm.trans HN.out, rfl⟩
      · have hb : ((k : Int) == (L : Int)) = true := by rw [beq_iff_eq]; omega
        have HK := hid hkL
        go_wp2
        go_ret
        exact ⟨ret_int ((neInt_past (HS.out.past k (by have := HK.out; omega))).symm.trans HN.out), rfl⟩
    case rest =>
      obtain ⟨m, rfl, hm, hne, rfl⟩ := hcut
      clear HN hk
      have HN := hid hne
      clear hne
      go_upto_region 10 with fail
      go_cut [44] (fun v wx => v = .bool (t m == 46) ∧ w = wx)
      case first =>
        by_cases hmL : m < L
        · have hc := HS.out.cell m hmL
          go_wp2
          go_meet
          case rel => exact ⟨rfl, rfl⟩
        · have HM := hid (HS.out.past m (by omega))
          go_wp2
          go_meet
          case rel => exact ⟨by rw [HM.out]; rfl, rfl⟩
      case rest =>
        obtain ⟨rfl, rfl⟩ := hcut
        go_upto_if 44 with fail
        go_cut [1] (fun v wx => ∃ q : Nat, v = .int .i64 q ∧ q ≤ L ∧ neExp t E q = neAt t E i ∧ w = wx)
        case first =>
          cases h46 : (t m == 46)
          · have H46 := hid h46
            go_wp2
            go_meet
            case rel => exact ⟨m, rfl, hm, (neFrac_no H46.out).symm.trans HN.out, rfl⟩
          · have H46 := hid h46
            have hmL : m + 1 ≤ L := HS.out.lt_of_eq h46 (by decide)
            by_cases hE1 : E (m + 1) = m + 1
            · have HE1 := hid hE1
              clear hE1
              go_wp2_with (go_at_call 23; refine (digitsEnd_no g L cap t E _ (m + 1) _ (by omega) HS.out HE.out hmL HE1.out).mono ?_; rintro e w' ⟨rfl, rfl⟩)
              go_ret
              exact ⟨ret_int ((neFrac_bad H46.out HE1.out).symm.trans HN.out), rfl⟩
            · have HE1 := hid hE1
              clear hE1
              go_wp2_with (go_at_call 23; refine (digitsEnd_yes g L cap t E _ (m + 1) _ (by omega) HS.out HE.out hmL HE1.out).mono ?_; rintro e w' ⟨rfl, rfl⟩)
              go_meet
              case rel => exact ⟨E (m + 1), rfl, HS.out.end_le HE.out hmL, (neFrac_yes H46.out HE1.out).symm.trans HN.out, rfl⟩
        case rest =>
          obtain ⟨q, rfl, hq, hne, rfl⟩ := hcut
          clear HN hm
          have HN := hid hne
          clear hne
          go_upto_region 14 with fail
          go_cut [68] (fun v wx => v = .bool ((t q == 101) || (t q == 69)) ∧ w = wx)
          case first =>
            by_cases hqL : q < L
            · have hc := HS.out.cell q hqL
              cases h101 : (t q == 101)
              all_goals
                have HH := hid h101
                go_wp2
                go_meet
                case rel => exact ⟨by rw [HH.out]; rfl, rfl⟩
            · have HM := hid (HS.out.past q (by omega))
              go_wp2
              go_meet
              case rel => exact ⟨by rw [HM.out]; rfl, rfl⟩
          case rest =>
            obtain ⟨rfl, rfl⟩ := hcut
            cases hee : ((t q == 101) || (t q == 69))
            · have HEE := hid hee
              go_wp2
              go_ret
              exact ⟨ret_int ((neExp_no HEE.out).symm.trans HN.out), rfl⟩
            · have HEE := hid hee
              have hqL : q + 1 ≤ L := HS.out.lt_of_exp hee
              go_upto_region 16 with fail
              go_cut [88] (fun v wx => v = .bool ((t (q + 1) == 43) || (t (q + 1) == 45)) ∧ w = wx)
              case first =>
                by_cases hqL1 : q + 1 < L
                · have hc := HS.out.cell (q + 1) hqL1
                  cases h43 : (t (q + 1) == 43)
                  all_goals
                    have HH := hid h43
                    go_wp2
                    go_meet
                    case rel => exact ⟨by rw [HH.out]; rfl, rfl⟩
                · have HM := hid (HS.out.past (q + 1) (by omega))
                  go_wp2
                  go_meet
                  case rel => exact ⟨by rw [HM.out]; rfl, rfl⟩
              case rest =>
                obtain ⟨rfl, rfl⟩ := hcut
                go_upto_if 88 with fail
                go_cut [1] (fun v wx => ∃ r : Nat, v = .int .i64 r ∧ r ≤ L ∧ endOr E r = neAt t E i ∧ w = wx)
                case first =>
                  cases hsg : ((t (q + 1) == 43) || (t (q + 1) == 45))
                  · have HSG := hid hsg
                    go_wp2
                    go_meet
                    case rel => exact ⟨q + 1, by go_num, by omega, (neExp_bare HEE.out HSG.out).symm.trans HN.out, rfl⟩
                  · have HSG := hid hsg
                    have hqL2 : q + 1 + 1 ≤ L := HS.out.lt_of_sign hsg
                    go_wp2
                    go_meet
                    case rel => exact ⟨q + 2, by go_num, by omega, (neExp_sign HEE.out HSG.out).symm.trans HN.out, rfl⟩
                case rest =>
                  obtain ⟨r, rfl, hr, hne, rfl⟩ := hcut
                  clear HN
                  have HN := hid hne
                  clear hne
                  by_cases hEr : E r = r
                  · have HEr := hid hEr
                    clear hEr
                    go_wp2_with (go_at_call 23; refine (digitsEnd_no g L cap t E _ r _ rfl HS.out HE.out hr HEr.out).mono ?_; rintro e w' ⟨rfl, rfl⟩)
                    go_ret
                    exact ⟨ret_int ((show (-1 : Int) = endOr E r by unfold endOr; rw [if_pos HEr.out]).trans HN.out), rfl⟩
                  · have HEr := hid hEr
                    clear hEr
                    go_wp2_with (go_at_call 23; refine (digitsEnd_yes g L cap t E _ r _ rfl HS.out HE.out hr HEr.out).mono ?_; rintro e w' ⟨rfl, rfl⟩)
                    go_ret
                    exact ⟨ret_int ((show (E r : Int) = endOr E r by unfold endOr; rw [if_neg HEr.out]).trans HN.out), rfl⟩
end Go.Proofs.Qxb6600620a.Num
