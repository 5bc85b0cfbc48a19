/-
  THE PLAIN LAWS OF creditCardAt: no Go in sight. A text is a function t from offsets to bytes that is 0 behind the text's end.
-/
namespace Go.Proofs.Qxb6600620a
set_option linter.unusedVariables false

/-- A byte is a digit. -/
def digB (c : Int) : Bool := decide (48 ≤ c ∧ c ≤ 57)
/-- A digit doubled, as the Luhn check counts it. -/
def dbl (d : Int) : Int := if 9 < 2 * d then 2 * d - 9 else 2 * d
/-- The byte c may join two digits where sp is the kind of separator that is fixed so far (0: none). -/
def sepB (c sp : Int) : Bool := (decide (c = 32) || decide (c = 45)) && (decide (sp = 0) || decide (sp = c))

/-- The two sums behind a digit d at place n. -/
def sumA (n : Nat) (s0 d : Int) : Int := if n % 2 = 0 then s0 + dbl d else s0 + d
def sumB (n : Nat) (s1 d : Int) : Int := if n % 2 = 0 then s1 + d else s1 + dbl d
/-- The sum that counts where the number has n digits. -/
def sumAt (n : Nat) (s0 s1 : Int) : Int := if n % 2 = 0 then s0 else s1
/-- The best end behind the n-th digit (n counted from 1), which ends at offset j. -/
def bestAt (t : Nat → Int) (n j : Nat) (s0 s1 b : Int) : Int :=
  if 13 ≤ n ∧ digB (t j) = false ∧ sumAt n s0 s1 % 10 = 0 then (j : Int) else b

/-- creditCardAt's loop: n digits are read, the next one stands at j. -/
def ccGo (t : Nat → Int) : Nat → Nat → Nat → Int → Int → Int → Int → Int
  | 0, _, _, _, _, _, b => b
  | f + 1, n, j, sp, s0, s1, b =>
    if n + 1 = 19 then bestAt t (n + 1) (j + 1) (sumA n s0 (t j - 48)) (sumB n s1 (t j - 48)) b
    else if digB (t (j + 1)) = true then
      ccGo t f (n + 1) (j + 1) sp (sumA n s0 (t j - 48)) (sumB n s1 (t j - 48)) (bestAt t (n + 1) (j + 1) (sumA n s0 (t j - 48)) (sumB n s1 (t j - 48)) b)
    else if (sepB (t (j + 1)) sp && digB (t (j + 2))) = true then
      ccGo t f (n + 1) (j + 2) (t (j + 1)) (sumA n s0 (t j - 48)) (sumB n s1 (t j - 48)) (bestAt t (n + 1) (j + 1) (sumA n s0 (t j - 48)) (sumB n s1 (t j - 48)) b)
    else bestAt t (n + 1) (j + 1) (sumA n s0 (t j - 48)) (sumB n s1 (t j - 48)) b

/-- What creditCardAt answers at offset i. -/
def ccAt (t : Nat → Int) (i : Nat) : Int := ccGo t 19 0 i 0 0 0 (-1)

theorem bestAt_or (t : Nat → Int) (n j : Nat) (s0 s1 b : Int) :
    bestAt t n j s0 s1 b = b ∨ (bestAt t n j s0 s1 b = j ∧ 13 ≤ n ∧ digB (t j) = false ∧ sumAt n s0 s1 % 10 = 0) := by
  unfold bestAt
  split
  · rename_i h; exact .inr ⟨rfl, h.1, h.2.1, h.2.2⟩
  · exact .inl rfl

/-- Where the answer lies. -/
theorem ccGo_range (t : Nat → Int) (f : Nat) : ∀ (n j : Nat) (sp s0 s1 b : Int), digB (t j) = true →
    ccGo t f n j sp s0 s1 b = b ∨ ∃ R : Nat, ccGo t f n j sp s0 s1 b = R ∧ j + 1 ≤ R ∧ R + 1 ≤ j + 2 * f ∧ j + 13 ≤ R + n ∧ digB (t (R - 1)) = true ∧ digB (t R) = false := by
  induction f with
  | zero => intro n j sp s0 s1 b _; exact .inl rfl
  | succ f ih =>
    intro n j sp s0 s1 b hd
    have hb : ∀ x0 x1, bestAt t (n + 1) (j + 1) x0 x1 b = b ∨ ∃ R : Nat, bestAt t (n + 1) (j + 1) x0 x1 b = R ∧ j + 1 ≤ R ∧ R + 1 ≤ j + 2 * (f + 1) ∧ j + 13 ≤ R + n ∧ digB (t (R - 1)) = true ∧ digB (t R) = false := by
      intro x0 x1
      rcases bestAt_or t (n + 1) (j + 1) x0 x1 b with h | ⟨h, h1, h2, _⟩
      · exact .inl h
      · exact .inr ⟨j + 1, h, Nat.le_refl _, by omega, by omega, hd, h2⟩
    unfold ccGo
    split
    · exact hb _ _
    · split
      · rename_i _ hn
        rcases ih (n + 1) (j + 1) sp (sumA n s0 (t j - 48)) (sumB n s1 (t j - 48)) (bestAt t (n + 1) (j + 1) (sumA n s0 (t j - 48)) (sumB n s1 (t j - 48)) b) hn with h | ⟨R, h, h1, h2, h3, h4⟩
        · rw [h]; exact hb _ _
        · exact .inr ⟨R, h, by omega, by omega, by omega, h4⟩
      · split
        · rename_i _ _ hs
          simp only [Bool.and_eq_true] at hs
          rcases ih (n + 1) (j + 2) (t (j + 1)) (sumA n s0 (t j - 48)) (sumB n s1 (t j - 48)) (bestAt t (n + 1) (j + 1) (sumA n s0 (t j - 48)) (sumB n s1 (t j - 48)) b) hs.2 with h | ⟨R, h, h1, h2, h3, h4⟩
          · rw [h]; exact hb _ _
          · exact .inr ⟨R, h, by omega, by omega, by omega, h4⟩
        · exact hb _ _

/-- Texts that agree on what is read give one answer. -/
theorem ccGo_local (t u : Nat → Int) (f : Nat) : ∀ (n j : Nat) (sp s0 s1 b : Int), f + n = 19 → (∀ k, j ≤ k → k < j + 2 * f → t k = u k) → ccGo t f n j sp s0 s1 b = ccGo u f n j sp s0 s1 b := by
  induction f with
  | zero => intro n j sp s0 s1 b _ _; rfl
  | succ f ih =>
    intro n j sp s0 s1 b hf h
    have e0 : t j = u j := h j (Nat.le_refl _) (by omega)
    have e1 : t (j + 1) = u (j + 1) := h (j + 1) (by omega) (by omega)
    unfold ccGo
    unfold bestAt
    rw [e0, e1]
    split
    · rfl
    · rename_i hn
      have e2 : t (j + 2) = u (j + 2) := h (j + 2) (by omega) (by omega)
      rw [e2]
      rw [ih (n + 1) (j + 1) _ _ _ _ (by omega) (fun k h1 h2 => h k (by omega) (by omega)), ih (n + 1) (j + 2) _ _ _ _ (by omega) (fun k h1 h2 => h k (by omega) (by omega))]

/-- An answer moved by p. -/
def shiftB (p : Nat) (b : Int) : Int := if b = -1 then -1 else b + p

theorem shiftB_nat (p j : Nat) : shiftB p (j : Int) = ((p + j : Nat) : Int) := by unfold shiftB; rw [if_neg (by omega)]; omega

theorem bestAt_shift (t u : Nat → Int) (p n j : Nat) (s0 s1 b : Int) (h : u (p + j) = t j) : bestAt u n (p + j) s0 s1 (shiftB p b) = shiftB p (bestAt t n j s0 s1 b) := by
  unfold bestAt
  rw [h]
  split
  · rw [shiftB_nat]
  · rfl

/-- Bytes put before the text move the answer. -/
theorem ccGo_shift (t u : Nat → Int) (p : Nat) (h : ∀ k, u (p + k) = t k) (f : Nat) : ∀ (n j : Nat) (sp s0 s1 b : Int),
    ccGo u f n (p + j) sp s0 s1 (shiftB p b) = shiftB p (ccGo t f n j sp s0 s1 b) := by
  induction f with
  | zero => intro n j sp s0 s1 b; rfl
  | succ f ih =>
    intro n j sp s0 s1 b
    unfold ccGo
    rw [Nat.add_assoc, Nat.add_assoc, h j, h (j + 1), h (j + 2), bestAt_shift t u p (n + 1) (j + 1) _ _ _ (h (j + 1)), ih (n + 1) (j + 1), ih (n + 1) (j + 2)]
    split
    · rfl
    · split
      · rfl
      · split <;> rfl

/-- The text cut at the answer gives the same answer. -/
theorem ccGo_cut (t u : Nat → Int) (R : Nat) (hu : ∀ k, k < R → u k = t k) (hR : u R = 0) (f : Nat) : ∀ (n j : Nat) (sp s0 s1 b c : Int), digB (t j) = true → b ≤ j → ccGo t f n j sp s0 s1 b = R → b ≠ R →
    ccGo u f n j sp s0 s1 c = R := by
  induction f with
  | zero => intro n j sp s0 s1 b c _ _ h hne; exact absurd h hne
  | succ f ih =>
    intro n j sp s0 s1 b c hd hb h hne
    have hlo : j + 1 ≤ R := by
      rcases ccGo_range t (f + 1) n j sp s0 s1 b hd with h' | ⟨R', h', h1, _⟩
      · rw [h] at h'; exact absurd h'.symm hne
      · rw [h] at h'; omega
    have e0 : u j = t j := hu j (by omega)
    by_cases hat : j + 1 = R
    · -- the answer is set at this very digit
      have key : bestAt t (n + 1) (j + 1) (sumA n s0 (t j - 48)) (sumB n s1 (t j - 48)) b = R := by
        unfold ccGo at h
        split at h
        · exact h
        · split at h
          · rename_i _ hn
            rcases ccGo_range t f _ _ _ _ _ _ hn with h' | ⟨R', h', h1, _⟩
            · rw [h'] at h; exact h
            · rw [h'] at h; omega
          · split at h
            · rename_i _ _ hs
              simp only [Bool.and_eq_true] at hs
              rcases ccGo_range t f _ _ _ _ _ _ hs.2 with h' | ⟨R', h', h1, _⟩
              · rw [h'] at h; exact h
              · rw [h'] at h; omega
            · exact h
      rcases bestAt_or t (n + 1) (j + 1) (sumA n s0 (t j - 48)) (sumB n s1 (t j - 48)) b with h' | ⟨_, k1, k2, k3⟩
      · rw [h'] at key; exact absurd key hne
      · have hz : u (j + 1) = 0 := by rw [hat]; exact hR
        have key2 : bestAt u (n + 1) (j + 1) (sumA n s0 (u j - 48)) (sumB n s1 (u j - 48)) c = R := by
          unfold bestAt
          rw [e0, hz, if_pos ⟨k1, by decide, k3⟩, hat]
        unfold ccGo
        rw [key2, hz]
        rw [if_neg (show ¬ digB 0 = true by decide), if_neg (show ¬ (sepB 0 sp && digB (u (j + 2))) = true by simp [sepB])]
        split <;> rfl
    · have e1 : u (j + 1) = t (j + 1) := hu (j + 1) (by omega)
      have hne' : ∀ x0 x1, bestAt t (n + 1) (j + 1) x0 x1 b ≠ R := by
        intro x0 x1
        rcases bestAt_or t (n + 1) (j + 1) x0 x1 b with h' | ⟨h', _⟩
        · rw [h']; exact hne
        · rw [h']; omega
      have hle' : ∀ x0 x1, bestAt t (n + 1) (j + 1) x0 x1 b ≤ ((j + 1 : Nat) : Int) := by
        intro x0 x1
        rcases bestAt_or t (n + 1) (j + 1) x0 x1 b with h' | ⟨h', _⟩
        · rw [h']; omega
        · rw [h']; exact Int.le_refl _
      unfold ccGo at h
      unfold ccGo
      rw [e0, e1]
      split at h
      · exact absurd h (hne' _ _)
      · rename_i h19
        rw [if_neg h19]
        split at h
        · rename_i hn
          rw [if_pos hn]
          exact ih _ _ _ _ _ _ _ hn (hle' _ _) h (hne' _ _)
        · rename_i hn
          rw [if_neg hn]
          split at h
          · rename_i hs
            have hs' := hs
            simp only [Bool.and_eq_true] at hs'
            have hlo2 : j + 2 + 1 ≤ R := by
              rcases ccGo_range t f _ _ _ _ _ _ hs'.2 with h' | ⟨R', h', h1, _⟩
              · rw [h'] at h; exact absurd h (hne' _ _)
              · rw [h'] at h; omega
            have e2 : u (j + 2) = t (j + 2) := hu (j + 2) (by omega)
            rw [e2, if_pos hs]
            exact ih _ _ _ _ _ _ _ hs'.2 (Int.le_trans (hle' _ _) (by omega)) h (hne' _ _)
          · exact absurd h (hne' _ _)

/-! ### What the law of creditCardAt asks -/
theorem ccAt_range {t : Nat → Int} {i : Nat} (h : digB (t i) = true) :
    ccAt t i = -1 ∨ ∃ R : Nat, ccAt t i = R ∧ i + 13 ≤ R ∧ R ≤ i + 37 ∧ digB (t (R - 1)) = true ∧ digB (t R) = false := by
  unfold ccAt
  rcases ccGo_range t 19 0 i 0 0 0 (-1) h with h' | ⟨R, h', h1, h2, h3, h4⟩
  · exact .inl h'
  · exact .inr ⟨R, h', by omega, by omega, h4⟩

theorem ccAt_local {t u : Nat → Int} {i : Nat} (h : ∀ k, i ≤ k → k < i + 38 → t k = u k) : ccAt t i = ccAt u i := by
  unfold ccAt
  exact ccGo_local t u 19 0 i 0 0 0 (-1) (by omega) (fun k h1 h2 => h k h1 (by omega))

theorem ccAt_shift {t u : Nat → Int} {p i : Nat} (h : ∀ k, u (p + k) = t k) : ccAt u (p + i) = shiftB p (ccAt t i) := by
  unfold ccAt
  have e : shiftB p (-1) = -1 := by simp [shiftB]
  have := ccGo_shift t u p h 19 0 i 0 0 0 (-1)
  rw [e] at this
  exact this

theorem ccAt_cut {t u : Nat → Int} {i R : Nat} (hd : digB (t i) = true) (h : ccAt t i = R) (hu : ∀ k, k < R → u k = t k) (hR : u R = 0) : ccAt u i = R := by
  unfold ccAt at *
  exact ccGo_cut t u R hu hR 19 0 i 0 0 0 (-1) (-1) hd (by omega) h (by omega)

end Go.Proofs.Qxb6600620a
