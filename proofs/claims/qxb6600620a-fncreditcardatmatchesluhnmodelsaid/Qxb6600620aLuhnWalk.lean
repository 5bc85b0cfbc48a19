import Derived.Test.Qxb6600620aCardWalk
import Derived.Test.Qxb6600620aLuhnPlain
namespace Go.Proofs.Qxb6600620a
open Go.ChangeShapes Go.WideShapes Go.ChangeAt Go.RowKit
set_option linter.unusedVariables false

theorem dg_bd {s : ByteArray} {l : List Nat} (h : ∀ x ∈ l, digB (tx s x) = true) : ∀ d ∈ dg (tx s) l, 0 ≤ d ∧ d ≤ 9 := by
  intro d hd
  obtain ⟨x, hx, rfl⟩ := List.mem_map.1 hd
  have := dig_yes (h x hx)
  omega

theorem lu_bd {s : ByteArray} {l : List Nat} (h : ∀ x ∈ l, digB (tx s x) = true) (hl : l.length ≤ 19) (m : Nat) : 0 ≤ luL (dg (tx s) (l.drop m)) ∧ luL (dg (tx s) (l.drop m)) ≤ 171 := by
  have h1 := luL_bd (dg (tx s) (l.drop m)) (dg_bd (fun x hx => h x (List.mem_of_mem_drop hx)))
  rw [dg_length] at h1
  have h2 : (l.drop m).length ≤ 19 := by rw [List.length_drop]; omega
  omega

theorem lu_step {t : Nat → Int} {l : List Nat} {m : Nat} (h : m < l.length) : luL (dg t (l.drop m)) = (if (l.length - 1 - m) % 2 = 1 then dbl (t l[m] - 48) else (t l[m] - 48)) + luL (dg t (l.drop (m + 1))) := by
  rw [List.drop_eq_getElem_cons h]
  show (if (dg t (l.drop (m + 1))).length % 2 = 1 then _ else _) + _ = _
  rw [dg_length, List.length_drop, show l.length - (m + 1) = l.length - 1 - m by omega]
  rfl

/-- Where LuhnAt's loop stands: at index m, the digits behind it summed; or through. -/
def LuAt (t : Nat → Int) (l : List Nat) (S : Int) (v : Value) : Prop :=
  (∃ m : Nat, v = .int .i64 m ∧ m < l.length ∧ S = luL (dg t (l.drop (m + 1)))) ∨ (v = .int .i64 (-1) ∧ S = luL (dg t l))

theorem luAt_next {t : Nat → Int} {l : List Nat} {m : Nat} {S : Int} (h : m < l.length) (hS : S = luL (dg t (l.drop m))) : LuAt t l S (.int .i64 ((m : Int) - 1)) := by
  cases m with
  | zero => exact .inr ⟨rfl, hS⟩
  | succ m => exact .inl ⟨m, by go_num, by omega, hS⟩

set_option maxHeartbeats 1000000 in
set_option maxRecDepth 100000 in
theorem luhn_any (s : ByteArray) (cs : Array Value) (l : List Nat) (w : World) (hs : s.size ≤ 1048576) (hc : cs.size = 19) (hl : 0 < l.length) (hl19 : l.length ≤ 19) (hd : ∀ x ∈ l, digB (tx s x) = true)
    (hcs : ∀ m (h : m < l.length), cs[m]? = some (.int .i64 (l[m] : Int))) :
    Calls Try.prog 21 #[.string s, .agg cs, .int .i64 l.length] w fun e w' => e = .returned (.bool (luL (dg (tx s) l) % 10 == 0)) ∧ w' = w.alloc (.cells cs 33) := by
  have HD := hid hd
  have HC := hid hcs
  have HZ := hid hc
  have hL0 := lu_bd hd hl19 0
  rw [List.drop_zero] at hL0
  clear hd hcs hc
  go_enter Try.func21, Try.ntmps21
  go_wp2_with fail
  go_loop [7, 8] (fun S v => ∃ Z : Int, S = .int .i64 Z ∧ LuAt (tx s) l Z v) (fun _ v => (intOf v + 1).toNat)
  case atStart => exact ⟨0, rfl, .inl ⟨l.length - 1, by go_num, by omega, by rw [List.drop_eq_nil_of_le (by omega)]; rfl⟩⟩
  case round =>
    obtain ⟨Z, rfl, hrel⟩ := hrel
    rcases hrel with ⟨m, rfl, hm, rfl⟩ | ⟨rfl, rfl⟩
    · have hb1 := lu_bd HD.out hl19 (m + 1)
      have hb0 := lu_bd HD.out hl19 m
      have hst := lu_step (t := tx s) hm
      have hdm := HD.out l[m] (List.getElem_mem hm)
      have hdy := dig_yes hdm
      have hdi := dig_in hdm
      have hx := tx_in hdi
      have hcm := HC.out m hm
      have hdb := dbl_bd (d := tx s l[m] - 48) (by omega) (by omega)
      generalize l[m] = p at *
      generalize luL (dg (tx s) (l.drop (m + 1))) = Z at *
      generalize eZ : luL (dg (tx s) (l.drop m)) = Z' at *
      have EZ := hid eZ
      have HSt := hid hst
      clear eZ hst hL0 hb0
      by_cases hp : ((l.length : Int) - 1 - m) % 2 = 1
      · have HP := hid (show (l.length - 1 - m) % 2 = 1 by omega)
        by_cases h9 : 9 < 2 * (tx s p - 48)
        · have HB := hid (dbl_hi h9)
          go_wp2
          go_round
          case rel => exact ⟨Z', by rw [HSt.out, if_pos HP.out, HB.out]; go_num, luAt_next hm EZ.out.symm⟩
          case measure => simp [intOf]
        · have HB := hid (dbl_lo (d := tx s p - 48) (by omega))
          go_wp2
          go_round
          case rel => exact ⟨Z', by rw [HSt.out, if_pos HP.out, HB.out]; go_num, luAt_next hm EZ.out.symm⟩
          case measure => simp [intOf]
      · have hp0 : ((l.length : Int) - 1 - m) % 2 = 0 := by omega
        have HP := hid (show ¬ (l.length - 1 - m) % 2 = 1 by omega)
        clear hp
        go_wp2
        go_round
        case rel => exact ⟨Z', by rw [HSt.out, if_neg HP.out]; go_num, luAt_next hm EZ.out.symm⟩
        case measure => simp [intOf]
    · go_wp2
      go_ret
      exact ⟨rfl, rfl⟩
end Go.Proofs.Qxb6600620a
