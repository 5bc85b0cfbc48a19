/-
  THE PLAIN LAW: creditCardAt's answer is the model's: no Go in sight.
-/
import Derived.Test.Qxb6600620aCardPlain
namespace Go.Proofs.Qxb6600620a
set_option linter.unusedVariables false

/-- The Luhn sum of a list of digits: every second one is doubled, counting from the last. -/
def luL : List Int → Int
  | [] => 0
  | d :: r => (if r.length % 2 = 1 then dbl d else d) + luL r

/-- The sum with every second digit doubled, the first one if b says so. -/
def sS : Bool → List Int → Int
  | _, [] => 0
  | b, d :: r => (if b = true then dbl d else d) + sS (!b) r

theorem luL_eq (l : List Int) : luL l = if l.length % 2 = 0 then sS true l else sS false l := by
  induction l with
  | nil => rfl
  | cons d r ih =>
    unfold luL sS
    rw [ih]
    by_cases h : r.length % 2 = 1
    · rw [if_pos h, if_neg (by omega), if_pos (by simp; omega)]; rfl
    · rw [if_neg h, if_pos (by omega), if_neg (by simp; omega)]; rfl

theorem sS_append (b : Bool) (l : List Int) (x : Int) : sS b (l ++ [x]) = sS b l + (if (l.length % 2 = 0) = (b = true) then dbl x else x) := by
  induction l generalizing b with
  | nil => cases b <;> simp [sS]
  | cons d r ih =>
    show (if b = true then dbl d else d) + sS (!b) (r ++ [x]) = (if b = true then dbl d else d) + sS (!b) r + _
    rw [ih]
    have e : ((r.length % 2 = 0) = ((!b) = true)) = (((d :: r).length % 2 = 0) = (b = true)) := by
      have hl : (d :: r).length = r.length + 1 := rfl
      rw [hl]
      by_cases h : r.length % 2 = 0
      · have h' : ¬ (r.length + 1) % 2 = 0 := by omega
        cases b <;> simp [h, h']
      · have h' : (r.length + 1) % 2 = 0 := by omega
        cases b <;> simp [h, h']
    simp only [e]
    omega

theorem sumA_eq (l : List Int) (d : Int) : sumA l.length (sS true l) d = sS true (l ++ [d]) := by
  rw [sS_append]
  unfold sumA
  by_cases h : l.length % 2 = 0
  · simp [h]
  · simp [h]

theorem sumB_eq (l : List Int) (d : Int) : sumB l.length (sS false l) d = sS false (l ++ [d]) := by
  rw [sS_append]
  unfold sumB
  by_cases h : l.length % 2 = 0
  · simp [h]
  · simp [h]

/-- The digits at the offsets l. -/
def dg (t : Nat → Int) (l : List Nat) : List Int := l.map (fun j => t j - 48)

/-- The offsets of the digits, from the n-th on, which stands at j. -/
def mpos (t : Nat → Int) : Nat → Nat → Nat → Int → List Nat
  | 0, _, _, _ => []
  | f + 1, n, j, sp =>
    j :: (if n + 1 = 19 then [] else if digB (t (j + 1)) = true then mpos t f (n + 1) (j + 1) sp
      else if (sepB (t (j + 1)) sp && digB (t (j + 2))) = true then mpos t f (n + 1) (j + 2) (t (j + 1)) else [])

/-- The best end when the digits at the offsets l have just been read, the last of which ends at e. -/
def mBest (t : Nat → Int) (l : List Nat) (e : Nat) (b : Int) : Int :=
  if 13 ≤ l.length ∧ digB (t e) = false ∧ luL (dg t l) % 10 = 0 then (e : Int) else b

/-- The model's second loop, over all lengths: pre is read, suf is to come. -/
def mscan (t : Nat → Int) : List Nat → List Nat → Int → Int
  | _, [], b => b
  | pre, j :: r, b => mscan t (pre ++ [j]) r (mBest t (pre ++ [j]) (j + 1) b)

theorem dg_append (t : Nat → Int) (l : List Nat) (j : Nat) : dg t (l ++ [j]) = dg t l ++ [t j - 48] := by simp [dg]
theorem dg_length (t : Nat → Int) (l : List Nat) : (dg t l).length = l.length := by simp [dg]

theorem mBest_eq (t : Nat → Int) (pre : List Nat) (j : Nat) (b : Int) :
    bestAt t (pre.length + 1) (j + 1) (sumA pre.length (sS true (dg t pre)) (t j - 48)) (sumB pre.length (sS false (dg t pre)) (t j - 48)) b = mBest t (pre ++ [j]) (j + 1) b := by
  have hA := sumA_eq (dg t pre) (t j - 48)
  have hB := sumB_eq (dg t pre) (t j - 48)
  rw [dg_length] at hA hB
  unfold bestAt mBest sumAt
  rw [hA, hB, luL_eq, dg_append]
  simp only [List.length_append, List.length_cons, List.length_nil, dg_length, Nat.zero_add]

theorem ccGo_scan (t : Nat → Int) (f : Nat) : ∀ (pre : List Nat) (j : Nat) (sp b : Int),
    ccGo t f pre.length j sp (sS true (dg t pre)) (sS false (dg t pre)) b = mscan t pre (mpos t f pre.length j sp) b := by
  induction f with
  | zero => intro pre j sp b; rfl
  | succ f ih =>
    intro pre j sp b
    have hA := sumA_eq (dg t pre) (t j - 48)
    have hB := sumB_eq (dg t pre) (t j - 48)
    rw [dg_length, ← dg_append] at hA hB
    have hlen : (pre ++ [j]).length = pre.length + 1 := by simp
    have e1 := ih (pre ++ [j]) (j + 1) sp (mBest t (pre ++ [j]) (j + 1) b)
    have e2 := ih (pre ++ [j]) (j + 2) (t (j + 1)) (mBest t (pre ++ [j]) (j + 1) b)
    rw [hlen] at e1 e2
    unfold ccGo mpos mscan
    rw [mBest_eq, hA, hB, e1, e2]
    split
    · rfl
    · split
      · rfl
      · split <;> rfl

/-- The offsets of the digits from i on. -/
def ps (t : Nat → Int) (i : Nat) : List Nat := mpos t 19 0 i 0

theorem ccAt_scan (t : Nat → Int) (i : Nat) : ccAt t i = mscan t [] (ps t i) (-1) := by
  unfold ccAt ps
  exact ccGo_scan t 19 [] i 0 (-1)

/-- Fewer than thirteen digits are no number. -/
theorem mscan_few (t : Nat → Int) (l : List Nat) (b : Int) (m : Nat) (hm : m ≤ 12) : mscan t (l.take m) (l.drop m) b = mscan t [] l b := by
  induction m with
  | zero => simp
  | succ m ih =>
    rw [← ih (by omega)]
    by_cases h : m < l.length
    · rw [List.drop_eq_getElem_cons h]
      show _ = mscan t (l.take m ++ [l[m]]) (l.drop (m + 1)) (mBest t (l.take m ++ [l[m]]) (l[m] + 1) b)
      rw [← List.take_succ_eq_append_getElem h]
      have : mBest t (l.take (m + 1)) (l[m] + 1) b = b := by
        unfold mBest
        rw [if_neg]
        rintro ⟨h1, _⟩
        simp at h1
        omega
      rw [this]
    · rw [List.drop_eq_nil_of_le (by omega), List.drop_eq_nil_of_le (by omega)]
      rfl

/-- One turn of the model's second loop. -/
theorem mscan_step (t : Nat → Int) (l : List Nat) (b : Int) (n : Nat) (h : n < l.length) :
    mscan t (l.take n) (l.drop n) b = mscan t (l.take (n + 1)) (l.drop (n + 1)) (mBest t (l.take (n + 1)) (l[n] + 1) b) := by
  rw [List.drop_eq_getElem_cons h]
  show mscan t (l.take n ++ [l[n]]) (l.drop (n + 1)) (mBest t (l.take n ++ [l[n]]) (l[n] + 1) b) = _
  rw [← List.take_succ_eq_append_getElem h]

theorem mscan_end (t : Nat → Int) (l : List Nat) (b : Int) (n : Nat) (h : l.length ≤ n) : mscan t (l.take n) (l.drop n) b = b := by
  rw [List.drop_eq_nil_of_le h]
  rfl

/-! ### The offsets -/
theorem mpos_cons (t : Nat → Int) (f n j : Nat) (sp : Int) : mpos t (f + 1) n j sp =
    j :: (if n + 1 = 19 then [] else if digB (t (j + 1)) = true then mpos t f (n + 1) (j + 1) sp
      else if (sepB (t (j + 1)) sp && digB (t (j + 2))) = true then mpos t f (n + 1) (j + 2) (t (j + 1)) else []) := rfl

theorem mpos_dig (t : Nat → Int) (f : Nat) : ∀ (n j : Nat) (sp : Int), digB (t j) = true → ∀ x ∈ mpos t f n j sp, digB (t x) = true := by
  induction f with
  | zero => intro n j sp _ x hx; cases hx
  | succ f ih =>
    intro n j sp hd x hx
    rw [mpos_cons] at hx
    rcases List.mem_cons.1 hx with rfl | hx
    · exact hd
    · split at hx
      · cases hx
      · split at hx
        · rename_i h; exact ih _ _ _ h x hx
        · split at hx
          · rename_i h
            rw [Bool.and_eq_true] at h
            exact ih _ _ _ h.2 x hx
          · cases hx

theorem mpos_len (t : Nat → Int) (f : Nat) : ∀ (n j : Nat) (sp : Int), (mpos t f n j sp).length ≤ f := by
  induction f with
  | zero => intro n j sp; exact Nat.le_refl _
  | succ f ih =>
    intro n j sp
    rw [mpos_cons, List.length_cons]
    split
    · simp
    · split
      · have := ih (n + 1) (j + 1) sp; omega
      · split
        · have := ih (n + 1) (j + 2) (t (j + 1)); omega
        · simp

/-- The Luhn sum is small. -/
theorem luL_bd (l : List Int) (h : ∀ d ∈ l, 0 ≤ d ∧ d ≤ 9) : 0 ≤ luL l ∧ luL l ≤ 9 * l.length := by
  induction l with
  | nil => simp [luL]
  | cons d r ih =>
    have h1 := ih (fun x hx => h x (List.mem_cons_of_mem _ hx))
    have h2 := h d List.mem_cons_self
    unfold luL dbl
    rw [List.length_cons]
    split
    · split <;> omega
    · omega
end Go.Proofs.Qxb6600620a
