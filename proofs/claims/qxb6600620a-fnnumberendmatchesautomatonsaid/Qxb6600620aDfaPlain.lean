/-
  THE PLAIN LAW: numberEnd's answer is the automaton's: no Go in sight.
-/
import Derived.Test.Qxb6600620aNumPlain
namespace Go.Proofs.Qxb6600620a
set_option linter.unusedVariables false

/-- The automaton's step: from state st by the byte c; -1 where there is none. -/
def nst (st c : Int) : Int :=
  if st = 0 then (if c = 45 then 1 else if c = 48 then 2 else if digB c = true then 3 else -1)
  else if st = 1 then (if c = 48 then 2 else if digB c = true then 3 else -1)
  else if st = 2 then (if c = 46 then 4 else if c = 101 ∨ c = 69 then 6 else -1)
  else if st = 3 then (if digB c = true then 3 else if c = 46 then 4 else if c = 101 ∨ c = 69 then 6 else -1)
  else if st = 4 then (if digB c = true then 5 else -1)
  else if st = 5 then (if digB c = true then 5 else if c = 101 ∨ c = 69 then 6 else -1)
  else if st = 6 then (if c = 43 ∨ c = 45 then 7 else if digB c = true then 8 else -1)
  else if st = 7 then (if digB c = true then 8 else -1)
  else if st = 8 then (if digB c = true then 8 else -1)
  else -1

/-- The answer where the automaton stops in state st at offset k. -/
def dfin (st : Int) (k : Nat) : Int := if st = 2 ∨ st = 3 ∨ st = 5 ∨ st = 8 then (k : Int) else -1

/-- The automaton's run, of at most f steps. -/
def dfaGo (t : Nat → Int) : Nat → Int → Nat → Int
  | 0, st, k => dfin st k
  | f + 1, st, k => if nst st (t k) = -1 then dfin st k else dfaGo t f (nst st (t k)) (k + 1)

theorem nst_zero (st : Int) : nst st 0 = -1 := by
  unfold nst
  simp [digB]

/-- The automaton's answer from state st at offset k, in a text of L bytes. -/
def dfa (t : Nat → Int) (L : Nat) (st : Int) (k : Nat) : Int := dfaGo t (L - k) st k

section
variable {t : Nat → Int} {L : Nat}

theorem dfa_eq (h : ∀ k, L ≤ k → t k = 0) (st : Int) (k : Nat) : dfa t L st k = if nst st (t k) = -1 then dfin st k else dfa t L (nst st (t k)) (k + 1) := by
  unfold dfa
  by_cases hk : k < L
  · rw [show L - k = (L - (k + 1)) + 1 by omega]
    rfl
  · rw [show L - k = 0 by omega, h k (by omega), nst_zero, if_pos rfl]
    rfl

theorem dfa_stop (h : ∀ k, L ≤ k → t k = 0) {st : Int} {k : Nat} (hs : nst st (t k) = -1) : dfa t L st k = dfin st k := by
  rw [dfa_eq h, if_pos hs]

theorem dfa_go (h : ∀ k, L ≤ k → t k = 0) {st st' : Int} {k : Nat} (hs : nst st (t k) = st') (hne : st' ≠ -1) : dfa t L st k = dfa t L st' (k + 1) := by
  rw [dfa_eq h, if_neg (by rw [hs]; exact hne), hs]

/-- A state that stays where it is by a digit runs to the digits' end. -/
theorem dfa_digits (h : ∀ k, L ≤ k → t k = 0) {st : Int} (hst : ∀ c, digB c = true → nst st c = st) (hne : st ≠ -1) (n : Nat) : ∀ (j e : Nat), e = j + n → IsEnd t j e → dfa t L st j = dfa t L st e := by
  induction n with
  | zero => intro j e he _; rw [he]; rfl
  | succ n ih =>
    intro j e he hE
    obtain ⟨h1, h2, h3⟩ := hE
    rw [dfa_go h (hst _ (h2 j (Nat.le_refl _) (by omega))) hne]
    exact ih (j + 1) e (by omega) ⟨by omega, fun k k1 k2 => h2 k (by omega) k2, h3⟩

theorem nst3 {c : Int} (h : digB c = true) : nst 3 c = 3 := by unfold nst; simp [h]
theorem nst5 {c : Int} (h : digB c = true) : nst 5 c = 5 := by unfold nst; simp [h]
theorem nst8 {c : Int} (h : digB c = true) : nst 8 c = 8 := by unfold nst; simp [h]

theorem not_dig {c : Int} (h : c = 45 ∨ c = 46 ∨ c = 101 ∨ c = 69 ∨ c = 43) : digB c = false := by
  rcases h with rfl | rfl | rfl | rfl | rfl <;> decide

/-- From a state that takes a digit into q, and stops otherwise, where no digit's answer is r. -/
theorem dfa_run (h : ∀ k, L ≤ k → t k = 0) {E : Nat → Nat} (hE : Ends t E) {p q : Int} (hp : ∀ c, digB c = true → nst p c = q) (hq : ∀ c, digB c = true → nst q c = q) (hne : q ≠ -1) {k : Nat} (hk : ¬ E k = k) :
    dfa t L p k = dfa t L q (E k) := by
  obtain ⟨h1, h2, h3⟩ := hE k
  have hd := h2 k (Nat.le_refl _) (by omega)
  rw [dfa_go h (hp _ hd) hne]
  exact dfa_digits h hq hne (E k - (k + 1)) (k + 1) (E k) (by omega) ⟨by omega, fun m m1 m2 => h2 m (by omega) m2, h3⟩

theorem end_no {E : Nat → Nat} (hE : Ends t E) {k : Nat} (hk : E k = k) : digB (t k) = false := by
  obtain ⟨_, _, h3⟩ := hE k
  rw [hk] at h3
  exact h3

/-- Digits that end the number: states 7 and 6 (behind 'e') into 8. -/
theorem dfa_exp8 (h : ∀ k, L ≤ k → t k = 0) {E : Nat → Nat} (hE : Ends t E) {k : Nat} : dfa t L 7 k = if E k = k then -1 else (E k : Int) := by
  by_cases hk : E k = k
  · rw [if_pos hk, dfa_stop h (by unfold nst; simp [end_no hE hk])]
    unfold dfin; simp
  · rw [if_neg hk, dfa_run h hE (p := 7) (q := 8) (fun c hc => by unfold nst; simp [hc]) (fun c hc => nst8 hc) (by decide) hk]
    obtain ⟨_, _, h3⟩ := hE k
    rw [dfa_stop h (by unfold nst; simp [h3])]
    unfold dfin; simp

theorem dfa_exp6 (h : ∀ k, L ≤ k → t k = 0) {E : Nat → Nat} (hE : Ends t E) {k : Nat} :
    dfa t L 6 k = if t k = 43 ∨ t k = 45 then (if E (k + 1) = k + 1 then -1 else (E (k + 1) : Int)) else (if E k = k then -1 else (E k : Int)) := by
  by_cases hs : t k = 43 ∨ t k = 45
  · rw [if_pos hs, dfa_go h (st' := 7) (by unfold nst; simp [hs]) (by decide), dfa_exp8 h hE]
  · rw [if_neg hs]
    by_cases hk : E k = k
    · rw [if_pos hk, dfa_stop h (by unfold nst; simp [hs, end_no hE hk])]
      unfold dfin; simp
    · rw [if_neg hk]
      obtain ⟨h1, h2, h3⟩ := hE k
      have hd := h2 k (Nat.le_refl _) (by omega)
      rw [dfa_go h (st' := 8) (by unfold nst; simp [hs, hd]) (by decide)]
      rw [dfa_digits h (st := 8) (fun c hc => nst8 hc) (by decide) (E k - (k + 1)) (k + 1) (E k) (by omega) ⟨by omega, fun m m1 m2 => h2 m (by omega) m2, h3⟩]
      rw [dfa_stop h (by unfold nst; simp [h3])]
      unfold dfin; simp

/-- Behind an integer's or a fraction's digits. -/
theorem dfa_tail (h : ∀ k, L ≤ k → t k = 0) {E : Nat → Nat} (hE : Ends t E) {st : Int} (hst : ∀ c, (c = 101 ∨ c = 69) → nst st c = 6) {k : Nat} (hno : ¬ (t k = 101 ∨ t k = 69) → nst st (t k) = -1) (hf : dfin st k = k) :
    dfa t L st k = neExp t E k := by
  unfold neExp
  by_cases he : t k = 101 ∨ t k = 69
  · rw [if_pos he, dfa_go h (hst _ he) (by decide), dfa_exp6 h hE]
  · rw [if_neg he, dfa_stop h (hno he), hf]

theorem dfa_frac (h : ∀ k, L ≤ k → t k = 0) {E : Nat → Nat} (hE : Ends t E) {k : Nat} : dfa t L 4 k = if E k = k then -1 else neExp t E (E k) := by
  by_cases hk : E k = k
  · rw [if_pos hk, dfa_stop h (by unfold nst; simp [end_no hE hk])]
    unfold dfin; simp
  · rw [if_neg hk, dfa_run h hE (p := 4) (q := 5) (fun c hc => by unfold nst; simp [hc]) (fun c hc => nst5 hc) (by decide) hk]
    obtain ⟨_, _, h3⟩ := hE k
    refine dfa_tail h hE (fun c hc => ?_) (fun hno => ?_) (by unfold dfin; simp)
    · have hd : digB c = false := not_dig (by omega)
      unfold nst; simp [hd, hc]
    · unfold nst; simp [h3, hno]

theorem dfa_int (h : ∀ k, L ≤ k → t k = 0) {E : Nat → Nat} (hE : Ends t E) {st : Int} (hst : st = 2 ∨ st = 3) {k : Nat} (hk : st = 3 → digB (t k) = false) : dfa t L st k = neFrac t E k := by
  unfold neFrac
  by_cases h46 : t k = 46
  · rw [if_pos h46, dfa_go h (st' := 4) (by rcases hst with rfl | rfl <;> (unfold nst; rw [h46]; simp [digB])) (by decide), dfa_frac h hE]
  · rw [if_neg h46]
    refine dfa_tail h hE (fun c hc => ?_) (fun hno => ?_) ?_
    · have hd : digB c = false := not_dig (by omega)
      have h46' : c ≠ 46 := by omega
      rcases hst with rfl | rfl <;> (unfold nst; simp [hd, hc, h46'])
    · rcases hst with rfl | rfl
      · unfold nst; simp [h46, hno]
      · unfold nst; simp [h46, hno, hk rfl]
    · rcases hst with rfl | rfl <;> (unfold dfin; simp)

theorem dfa_head (h : ∀ k, L ≤ k → t k = 0) {E : Nat → Nat} (hE : Ends t E) {st : Int} {k : Nat} (hst : st = 1 ∨ (st = 0 ∧ t k ≠ 45)) : dfa t L st k = neInt t E k := by
  unfold neInt
  by_cases h48 : t k = 48
  · rw [if_pos h48, dfa_go h (st' := 2) (by rcases hst with rfl | ⟨rfl, _⟩ <;> (unfold nst; rw [h48]; simp)) (by decide)]
    exact dfa_int h hE (.inl rfl) (fun e => by cases e)
  · rw [if_neg h48]
    by_cases hd : digB (t k) = true
    · rw [if_pos hd, dfa_go h (st' := 3) (by rcases hst with rfl | ⟨rfl, h45⟩ <;> (unfold nst; simp [*])) (by decide)]
      obtain ⟨h1, h2, h3⟩ := hE k
      have hne : E k ≠ k := by intro e; rw [e, hd] at h3; cases h3
      rw [dfa_digits h (st := 3) (fun c hc => nst3 hc) (by decide) (E k - (k + 1)) (k + 1) (E k) (by omega) ⟨by omega, fun m m1 m2 => h2 m (by omega) m2, h3⟩]
      exact dfa_int h hE (.inr rfl) (fun _ => h3)
    · rw [if_neg hd]
      rw [dfa_stop h (by rcases hst with rfl | ⟨rfl, h45⟩ <;> (unfold nst; simp [*]))]
      rcases hst with rfl | ⟨rfl, _⟩ <;> (unfold dfin; simp)

/-- THE LAW: the automaton answers what numberEnd answers. -/
theorem dfa_ne (h : ∀ k, L ≤ k → t k = 0) {E : Nat → Nat} (hE : Ends t E) (i : Nat) : dfa t L 0 i = neAt t E i := by
  unfold neAt
  by_cases h45 : t i = 45
  · rw [if_pos h45, dfa_go h (st' := 1) (by unfold nst; simp [h45]) (by decide)]
    exact dfa_head h hE (.inl rfl)
  · rw [if_neg h45]
    exact dfa_head h hE (.inr ⟨rfl, h45⟩)
end
end Go.Proofs.Qxb6600620a
