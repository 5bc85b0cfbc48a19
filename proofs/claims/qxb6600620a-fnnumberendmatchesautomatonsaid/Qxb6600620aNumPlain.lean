/-
  THE PLAIN LAWS OF numberEnd: no Go in sight. A text is a function t from offsets to bytes that is 0 behind the text's end.
-/
import Derived.Test.Qxb6600620aCardPlain
namespace Go.Proofs.Qxb6600620a
set_option linter.unusedVariables false

/-- The digits that begin at j end at e. -/
def IsEnd (t : Nat → Int) (j e : Nat) : Prop := j ≤ e ∧ (∀ k, j ≤ k → k < e → digB (t k) = true) ∧ digB (t e) = false

theorem isEnd_unique {t : Nat → Int} {j e f : Nat} (h : IsEnd t j e) (g : IsEnd t j f) : e = f := by
  obtain ⟨h1, h2, h3⟩ := h
  obtain ⟨g1, g2, g3⟩ := g
  by_cases a : e < f
  · have := g2 e h1 a; rw [h3] at this; cases this
  · by_cases b : f < e
    · have := h2 f g1 b; rw [g3] at this; cases this
    · omega

/-- The end of the digits that begin at j, looked for in f steps. -/
def dRun (t : Nat → Int) : Nat → Nat → Nat
  | 0, j => j
  | f + 1, j => if digB (t j) = true then dRun t f (j + 1) else j

/-- The end of the digits that begin at j in a text of L bytes. -/
def dEnd (t : Nat → Int) (L j : Nat) : Nat := dRun t (L - j) j

theorem dRun_ok {t : Nat → Int} (f : Nat) : ∀ j, (∀ k, j + f ≤ k → t k = 0) → IsEnd t j (dRun t f j) := by
  induction f with
  | zero =>
    intro j h
    refine ⟨Nat.le_refl _, fun k h1 h2 => absurd h1 (by unfold dRun at h2; omega), ?_⟩
    show digB (t j) = false
    rw [h j (Nat.le_refl _)]; decide
  | succ f ih =>
    intro j h
    unfold dRun
    split
    · rename_i hd
      obtain ⟨h1, h2, h3⟩ := ih (j + 1) (fun k hk => h k (by omega))
      refine ⟨by omega, fun k k1 k2 => ?_, h3⟩
      by_cases e : k = j
      · subst e; exact hd
      · exact h2 k (by omega) k2
    · rename_i hd
      exact ⟨Nat.le_refl _, fun k h1 h2 => by omega, by simpa using hd⟩

theorem dEnd_ok {t : Nat → Int} {L : Nat} (h : ∀ k, L ≤ k → t k = 0) (j : Nat) : IsEnd t j (dEnd t L j) :=
  dRun_ok (L - j) j (fun k hk => h k (by omega))

/-- Whatever answers the end of each run of digits. -/
def Ends (t : Nat → Int) (E : Nat → Nat) : Prop := ∀ j, IsEnd t j (E j)

/-- The exponent of a number, if any, from offset k on. -/
def neExp (t : Nat → Int) (E : Nat → Nat) (k : Nat) : Int :=
  if t k = 101 ∨ t k = 69 then
    (if t (k + 1) = 43 ∨ t (k + 1) = 45 then (if E (k + 2) = k + 2 then -1 else (E (k + 2) : Int)) else (if E (k + 1) = k + 1 then -1 else (E (k + 1) : Int)))
  else (k : Int)
/-- The fraction and the exponent, if any, from offset k on. -/
def neFrac (t : Nat → Int) (E : Nat → Nat) (k : Nat) : Int :=
  if t k = 46 then (if E (k + 1) = k + 1 then -1 else neExp t E (E (k + 1))) else neExp t E k
/-- The number without its sign, from offset k on. -/
def neInt (t : Nat → Int) (E : Nat → Nat) (k : Nat) : Int :=
  if t k = 48 then neFrac t E (k + 1) else if digB (t k) = true then neFrac t E (E k) else -1
/-- What numberEnd answers at offset i. -/
def neAt (t : Nat → Int) (E : Nat → Nat) (i : Nat) : Int := if t i = 45 then neInt t E (i + 1) else neInt t E i

/-! ### The answer lies behind i, on a digit -/
/-- r is no end, or an end behind k that stands behind a digit. -/
def OnDigit (t : Nat → Int) (k : Nat) (r : Int) : Prop := r = -1 ∨ ∃ R : Nat, r = R ∧ k ≤ R ∧ 1 ≤ R ∧ digB (t (R - 1)) = true

theorem onDigit_mono {t : Nat → Int} {k k' : Nat} {r : Int} (h : OnDigit t k r) (hk : k' ≤ k) : OnDigit t k' r := by
  rcases h with h | ⟨R, h1, h2, h3⟩
  · exact .inl h
  · exact .inr ⟨R, h1, by omega, h3⟩

theorem onDigit_end {t : Nat → Int} {E : Nat → Nat} (hE : Ends t E) (k : Nat) : OnDigit t (k + 1) (if E k = k then -1 else (E k : Int)) := by
  split
  · exact .inl rfl
  · rename_i h
    obtain ⟨h1, h2, _⟩ := hE k
    exact .inr ⟨E k, rfl, by omega, by omega, h2 (E k - 1) (by omega) (by omega)⟩

theorem neExp_on {t : Nat → Int} {E : Nat → Nat} (hE : Ends t E) {k : Nat} (hk : 1 ≤ k) (hd : digB (t (k - 1)) = true) : OnDigit t k (neExp t E k) := by
  unfold neExp
  split
  · split
    · exact onDigit_mono (onDigit_end hE (k + 2)) (by omega)
    · exact onDigit_mono (onDigit_end hE (k + 1)) (by omega)
  · exact .inr ⟨k, rfl, Nat.le_refl _, hk, hd⟩

theorem neFrac_on {t : Nat → Int} {E : Nat → Nat} (hE : Ends t E) {k : Nat} (hk : 1 ≤ k) (hd : digB (t (k - 1)) = true) : OnDigit t k (neFrac t E k) := by
  unfold neFrac
  split
  · split
    · exact .inl rfl
    · rename_i h
      obtain ⟨h1, h2, _⟩ := hE (k + 1)
      exact onDigit_mono (neExp_on hE (by omega) (h2 (E (k + 1) - 1) (by omega) (by omega))) (by omega)
  · exact neExp_on hE hk hd

theorem neInt_on {t : Nat → Int} {E : Nat → Nat} (hE : Ends t E) (k : Nat) : OnDigit t (k + 1) (neInt t E k) := by
  unfold neInt
  split
  · rename_i h
    exact neFrac_on hE (by omega) (by show digB (t k) = true; rw [h]; decide)
  · split
    · rename_i h
      obtain ⟨h1, h2, h3⟩ := hE k
      have hne : E k ≠ k := by
        intro e; rw [e, h] at h3; cases h3
      exact onDigit_mono (neFrac_on hE (by omega) (h2 (E k - 1) (by omega) (by omega))) (by omega)
    · exact .inl rfl

theorem neAt_on {t : Nat → Int} {E : Nat → Nat} (hE : Ends t E) (i : Nat) : OnDigit t (i + 1) (neAt t E i) := by
  unfold neAt
  split
  · exact onDigit_mono (neInt_on hE (i + 1)) (by omega)
  · exact neInt_on hE i

theorem neAt_start {t : Nat → Int} {E : Nat → Nat} {i : Nat} (h1 : t i ≠ 45) (h2 : digB (t i) = false) : neAt t E i = -1 := by
  unfold neAt neInt
  rw [if_neg h1, if_neg (by intro e; rw [e] at h2; revert h2; decide), if_neg (by rw [h2]; decide)]

/-! ### Bytes put before the text move the answer -/
theorem ends_shift {t u : Nat → Int} {E F : Nat → Nat} {p : Nat} (h : ∀ k, u (p + k) = t k) (hE : Ends t E) (hF : Ends u F) (j : Nat) : F (p + j) = p + E j := by
  obtain ⟨h1, h2, h3⟩ := hE j
  refine isEnd_unique (hF (p + j)) ⟨by omega, fun k k1 k2 => ?_, by rw [h]; exact h3⟩
  have : u k = t (k - p) := by rw [← h (k - p)]; congr 1; omega
  rw [this]
  exact h2 _ (by omega) (by omega)

section
variable {t u : Nat → Int} {E F : Nat → Nat} {p : Nat}
theorem end_shift (h : ∀ k, u (p + k) = t k) (hE : Ends t E) (hF : Ends u F) (k : Nat) :
    (if F (p + k) = p + k then -1 else (F (p + k) : Int)) = shiftB p (if E k = k then -1 else (E k : Int)) := by
  rw [ends_shift h hE hF k]
  by_cases e : E k = k
  · rw [if_pos (by omega), if_pos e]; rfl
  · rw [if_neg (by omega), if_neg e, shiftB_nat]

theorem neExp_shift (h : ∀ k, u (p + k) = t k) (hE : Ends t E) (hF : Ends u F) (k : Nat) : neExp u F (p + k) = shiftB p (neExp t E k) := by
  unfold neExp
  rw [Nat.add_assoc, Nat.add_assoc, h k, h (k + 1), end_shift h hE hF (k + 1), end_shift h hE hF (k + 2)]
  split
  · split <;> rfl
  · rw [shiftB_nat]

theorem neFrac_shift (h : ∀ k, u (p + k) = t k) (hE : Ends t E) (hF : Ends u F) (k : Nat) : neFrac u F (p + k) = shiftB p (neFrac t E k) := by
  unfold neFrac
  rw [Nat.add_assoc, h k, ends_shift h hE hF (k + 1), neExp_shift h hE hF k, neExp_shift h hE hF (E (k + 1))]
  by_cases c : t k = 46
  · rw [if_pos c, if_pos c]
    by_cases e : E (k + 1) = k + 1
    · rw [if_pos (by omega), if_pos e]; rfl
    · rw [if_neg (by omega), if_neg e]
  · rw [if_neg c, if_neg c]

theorem neInt_shift (h : ∀ k, u (p + k) = t k) (hE : Ends t E) (hF : Ends u F) (k : Nat) : neInt u F (p + k) = shiftB p (neInt t E k) := by
  unfold neInt
  rw [Nat.add_assoc, h k, ends_shift h hE hF k, neFrac_shift h hE hF (k + 1), neFrac_shift h hE hF (E k)]
  split
  · rfl
  · split <;> rfl

theorem neAt_shift (h : ∀ k, u (p + k) = t k) (hE : Ends t E) (hF : Ends u F) (i : Nat) : neAt u F (p + i) = shiftB p (neAt t E i) := by
  unfold neAt
  rw [Nat.add_assoc, h i, neInt_shift h hE hF i, neInt_shift h hE hF (i + 1)]
  split <;> rfl
end

/-! ### The text cut at the answer gives the same answer -/
section
variable {t u : Nat → Int} {E F : Nat → Nat} {R : Nat}

theorem ends_cut (hu : ∀ k, k < R → u k = t k) (hR : u R = 0) (hE : Ends t E) (hF : Ends u F) {j : Nat} (hj : E j ≤ R) : F j = E j := by
  obtain ⟨h1, h2, h3⟩ := hE j
  refine isEnd_unique (hF j) ⟨h1, fun k k1 k2 => ?_, ?_⟩
  · rw [hu k (by omega)]; exact h2 k k1 k2
  · by_cases e : E j = R
    · rw [e, hR]; decide
    · rw [hu _ (by omega)]; exact h3

theorem end_cut (hu : ∀ k, k < R → u k = t k) (hR : u R = 0) (hE : Ends t E) (hF : Ends u F) {j : Nat} (h : (if E j = j then -1 else (E j : Int)) = R) :
    (if F j = j then -1 else (F j : Int)) = R := by
  have hj : E j = R ∧ E j ≠ j := by
    split at h
    · omega
    · rename_i hne; exact ⟨by omega, hne⟩
  rw [ends_cut hu hR hE hF (by omega)]
  exact h

theorem neExp_cut (hu : ∀ k, k < R → u k = t k) (hR : u R = 0) (hE : Ends t E) (hF : Ends u F) {k : Nat} (hk : k ≤ R) (h : neExp t E k = R) : neExp u F k = R := by
  unfold neExp at h ⊢
  by_cases hkR : k = R
  · rw [hkR, hR, if_neg (by decide)]
  · rw [hu k (by omega)]
    split at h
    · rename_i c
      rw [if_pos c]
      have hk1 : k + 1 < R := by
        obtain ⟨e1, _⟩ := hE (k + 1)
        obtain ⟨e2, _⟩ := hE (k + 2)
        split at h <;> split at h <;> omega
      rw [hu (k + 1) hk1]
      split at h
      · rename_i c2
        rw [if_pos c2]
        exact end_cut hu hR hE hF h
      · rename_i c2
        rw [if_neg c2]
        exact end_cut hu hR hE hF h
    · omega

theorem neExp_le (hE : Ends t E) {k : Nat} (h : neExp t E k = R) : k ≤ R := by
  unfold neExp at h
  obtain ⟨e1, _⟩ := hE (k + 1)
  obtain ⟨e2, _⟩ := hE (k + 2)
  split at h
  · split at h <;> split at h <;> omega
  · omega

theorem neFrac_le (hE : Ends t E) {k : Nat} (h : neFrac t E k = R) : k ≤ R := by
  unfold neFrac at h
  obtain ⟨e1, _⟩ := hE (k + 1)
  split at h
  · split at h
    · omega
    · have := neExp_le hE h; omega
  · exact neExp_le hE h

theorem neFrac_cut (hu : ∀ k, k < R → u k = t k) (hR : u R = 0) (hE : Ends t E) (hF : Ends u F) {k : Nat} (h : neFrac t E k = R) : neFrac u F k = R := by
  have hk := neFrac_le hE h
  unfold neFrac at h ⊢
  by_cases hkR : k = R
  · rw [hkR, hR, if_neg (by decide)]
    unfold neExp
    rw [hR, if_neg (by decide)]
  · rw [hu k (by omega)]
    split at h
    · rename_i c
      rw [if_pos c]
      split at h
      · omega
      · rename_i hne
        have hle := neExp_le hE h
        rw [ends_cut hu hR hE hF hle, if_neg hne]
        exact neExp_cut hu hR hE hF hle h
    · rename_i c
      rw [if_neg c]
      exact neExp_cut hu hR hE hF hk h

theorem neInt_cut (hu : ∀ k, k < R → u k = t k) (hR : u R = 0) (hE : Ends t E) (hF : Ends u F) {k : Nat} (h : neInt t E k = R) : neInt u F k = R := by
  have hk : k < R := by
    rcases neInt_on hE k with h' | ⟨R', h', h1, _⟩
    · rw [h] at h'; omega
    · rw [h] at h'; omega
  unfold neInt at h ⊢
  rw [hu k hk]
  split at h
  · rename_i c
    rw [if_pos c]
    exact neFrac_cut hu hR hE hF h
  · rename_i c
    rw [if_neg c]
    split at h
    · rename_i c2
      rw [if_pos c2, ends_cut hu hR hE hF (neFrac_le hE h)]
      exact neFrac_cut hu hR hE hF h
    · omega

theorem neAt_cut (hu : ∀ k, k < R → u k = t k) (hR : u R = 0) (hE : Ends t E) (hF : Ends u F) {i : Nat} (h : neAt t E i = R) : neAt u F i = R := by
  have hi : i < R := by
    rcases neAt_on hE i with h' | ⟨R', h', h1, _⟩
    · rw [h] at h'; omega
    · rw [h] at h'; omega
  unfold neAt at h ⊢
  rw [hu i hi]
  split at h
  · rename_i c
    rw [if_pos c]
    exact neInt_cut hu hR hE hF h
  · rename_i c
    rw [if_neg c]
    exact neInt_cut hu hR hE hF h
end
end Go.Proofs.Qxb6600620a
