/- The plain mathematics of patternsMeet, no Go in sight. Two patterns a, b (lists of runes; 42: the star, 63: the question mark) stand at places (i, j); an edge leads down (a's place moves), right (b's place moves) or across (both move). F: reached from (0, 0), row by row, as patternsMeet reckons it. B: leads to the end, as the model by suffixes reckons it. F at the end is B at the start. -/
namespace Go.Proofs.Qxb6602057aMods

def stA (a : List Int) (i : Nat) : Bool := decide (i < a.length) && (a.getD i 0 == 42)
def onA (a : List Int) (i : Nat) : Bool := decide (i < a.length) && !(a.getD i 0 == 42)
def mt (a b : List Int) (i j : Nat) : Bool := a.getD i 0 == 63 || b.getD j 0 == 63 || a.getD i 0 == b.getD j 0
def eD (a b : List Int) (i j : Nat) : Bool := stA a i || (stA b j && onA a i)
def eR (a b : List Int) (i j : Nat) : Bool := stA b j || (stA a i && onA b j)
def eX (a b : List Int) (i j : Nat) : Bool := onA a i && onA b j && mt a b i j

theorem stA_lt {a : List Int} {i : Nat} (h : stA a i = true) : i < a.length := by
  simp [stA] at h; exact h.1
theorem onA_lt {a : List Int} {i : Nat} (h : onA a i = true) : i < a.length := by
  simp [onA] at h; exact h.1
theorem eD_lt {a b : List Int} {i j : Nat} (h : eD a b i j = true) : i < a.length := by
  simp only [eD, Bool.or_eq_true, Bool.and_eq_true] at h
  rcases h with h | h
  · exact stA_lt h
  · exact onA_lt h.2
theorem eR_lt {a b : List Int} {i j : Nat} (h : eR a b i j = true) : j < b.length := by
  simp only [eR, Bool.or_eq_true, Bool.and_eq_true] at h
  rcases h with h | h
  · exact stA_lt h
  · exact onA_lt h.2
theorem eX_lt {a b : List Int} {i j : Nat} (h : eX a b i j = true) : i < a.length ∧ j < b.length := by
  simp only [eX, Bool.and_eq_true] at h
  exact ⟨onA_lt h.1.1, onA_lt h.1.2⟩

/-! ### forward -/
def fin (pre r : Nat → Bool) : Nat → Bool
  | 0 => pre 0
  | j + 1 => pre (j + 1) || (fin pre r j && r j)
def nxt (row d x : Nat → Bool) : Nat → Bool
  | 0 => row 0 && d 0
  | j + 1 => (row (j + 1) && d (j + 1)) || (row j && x j)
def F (a b : List Int) : Nat → Nat → Bool
  | 0 => fin (fun j => j == 0) (eR a b 0)
  | i + 1 => fin (nxt (F a b i) (eD a b i) (eX a b i)) (eR a b (i + 1))
/-- What row i holds before its own steps to the right. -/
def P (a b : List Int) : Nat → Nat → Bool
  | 0 => fun j => j == 0
  | i + 1 => nxt (F a b i) (eD a b i) (eX a b i)

theorem F_eq (a b : List Int) (i : Nat) : F a b i = fin (P a b i) (eR a b i) := by cases i <;> rfl
theorem F_zero (a b : List Int) (i : Nat) : F a b i 0 = P a b i 0 := by rw [F_eq]; rfl
theorem F_succ (a b : List Int) (i j : Nat) : F a b i (j + 1) = (P a b i (j + 1) || (F a b i j && eR a b i j)) := by rw [F_eq]; rfl
theorem F_00 (a b : List Int) : F a b 0 0 = true := rfl
theorem F_right {a b : List Int} {i j : Nat} (h : F a b i j = true) (e : eR a b i j = true) : F a b i (j + 1) = true := by
  rw [F_succ, h, e]; simp
theorem P_F {a b : List Int} {i j : Nat} (h : P a b i j = true) : F a b i j = true := by
  cases j with
  | zero => rw [F_zero]; exact h
  | succ j => rw [F_succ, h]; simp
theorem F_down {a b : List Int} {i j : Nat} (h : F a b i j = true) (e : eD a b i j = true) : F a b (i + 1) j = true := by
  apply P_F
  show nxt (F a b i) (eD a b i) (eX a b i) j = true
  cases j <;> simp [nxt, h, e]
theorem F_across {a b : List Int} {i j : Nat} (h : F a b i j = true) (e : eX a b i j = true) : F a b (i + 1) (j + 1) = true := by
  apply P_F
  show nxt (F a b i) (eD a b i) (eX a b i) (j + 1) = true
  simp [nxt, h, e]
/-- Whatever is reached, and is not the start, was reached by an edge. -/
theorem F_pred {a b : List Int} {i j : Nat} (h : F a b i j = true) : (i = 0 ∧ j = 0) ∨ (∃ i', i = i' + 1 ∧ F a b i' j = true ∧ eD a b i' j = true) ∨
    (∃ j', j = j' + 1 ∧ F a b i j' = true ∧ eR a b i j' = true) ∨ (∃ i' j', i = i' + 1 ∧ j = j' + 1 ∧ F a b i' j' = true ∧ eX a b i' j' = true) := by
  have hP : P a b i j = true ∨ ∃ j', j = j' + 1 ∧ F a b i j' = true ∧ eR a b i j' = true := by
    cases j with
    | zero => rw [F_zero] at h; exact .inl h
    | succ j =>
      rw [F_succ, Bool.or_eq_true, Bool.and_eq_true] at h
      rcases h with h | h
      · exact .inl h
      · exact .inr ⟨j, rfl, h.1, h.2⟩
  rcases hP with hP | hP
  · cases i with
    | zero =>
      left
      have : (j == 0) = true := hP
      exact ⟨rfl, by simpa using this⟩
    | succ i =>
      right
      have hP : nxt (F a b i) (eD a b i) (eX a b i) j = true := hP
      cases j with
      | zero =>
        simp only [nxt, Bool.and_eq_true] at hP
        exact .inl ⟨i, rfl, hP.1, hP.2⟩
      | succ j =>
        simp only [nxt, Bool.or_eq_true, Bool.and_eq_true] at hP
        rcases hP with hP | hP
        · exact .inl ⟨i, rfl, hP.1, hP.2⟩
        · exact .inr (.inr ⟨i, j, rfl, rfl, hP.1, hP.2⟩)
  · exact .inr (.inr (.inl hP))

/-! ### backward -/
def acc (a b : List Int) : Nat → Nat → Nat → Bool
  | 0, i, j => i == a.length && j == b.length
  | k + 1, i, j => (i == a.length && j == b.length) || (eD a b i j && acc a b k (i + 1) j) || (eR a b i j && acc a b k i (j + 1)) || (eX a b i j && acc a b k (i + 1) (j + 1))
def B (a b : List Int) (i j : Nat) : Bool := acc a b ((a.length - i) + (b.length - j)) i j

/-- More fuel than there are places left turns nothing. -/
theorem acc_stable (a b : List Int) : ∀ (k i j : Nat), (a.length - i) + (b.length - j) ≤ k → acc a b k i j = acc a b (k + 1) i j := by
  intro k
  induction k with
  | zero =>
    intro i j h
    have hd : eD a b i j = false := by
      cases he : eD a b i j
      · rfl
      · have := eD_lt he; omega
    have hr : eR a b i j = false := by
      cases he : eR a b i j
      · rfl
      · have := eR_lt he; omega
    have hx : eX a b i j = false := by
      cases he : eX a b i j
      · rfl
      · have := eX_lt he; omega
    simp [acc, hd, hr, hx]
  | succ k ih =>
    intro i j h
    have h1 : (eD a b i j && acc a b k (i + 1) j) = (eD a b i j && acc a b (k + 1) (i + 1) j) := by
      cases he : eD a b i j
      · rfl
      · have := eD_lt he
        rw [ih (i + 1) j (by omega)]
    have h2 : (eR a b i j && acc a b k i (j + 1)) = (eR a b i j && acc a b (k + 1) i (j + 1)) := by
      cases he : eR a b i j
      · rfl
      · have := eR_lt he
        rw [ih i (j + 1) (by omega)]
    have h3 : (eX a b i j && acc a b k (i + 1) (j + 1)) = (eX a b i j && acc a b (k + 1) (i + 1) (j + 1)) := by
      cases he : eX a b i j
      · rfl
      · have := eX_lt he
        rw [ih (i + 1) (j + 1) (by omega)]
    have e1 : acc a b (k + 1) i j = ((i == a.length && j == b.length) || (eD a b i j && acc a b k (i + 1) j) || (eR a b i j && acc a b k i (j + 1)) || (eX a b i j && acc a b k (i + 1) (j + 1))) := rfl
    have e2 : acc a b (k + 1 + 1) i j = ((i == a.length && j == b.length) || (eD a b i j && acc a b (k + 1) (i + 1) j) || (eR a b i j && acc a b (k + 1) i (j + 1)) || (eX a b i j && acc a b (k + 1) (i + 1) (j + 1))) := rfl
    rw [e1, e2, h1, h2, h3]

theorem acc_B (a b : List Int) (i j : Nat) : ∀ d, acc a b ((a.length - i) + (b.length - j) + d) i j = B a b i j := by
  intro d
  induction d with
  | zero => rfl
  | succ d ih => rw [← ih, ← Nat.add_assoc, ← acc_stable a b _ i j (by omega)]

theorem B_eq (a b : List Int) (i j : Nat) : B a b i j = ((i == a.length && j == b.length) || (eD a b i j && B a b (i + 1) j) || (eR a b i j && B a b i (j + 1)) || (eX a b i j && B a b (i + 1) (j + 1))) := by
  rw [← acc_B a b i j 2]
  have e1 : acc a b ((a.length - i) + (b.length - j) + 2) i j = ((i == a.length && j == b.length) || (eD a b i j && acc a b ((a.length - i) + (b.length - j) + 1) (i + 1) j) || (eR a b i j && acc a b ((a.length - i) + (b.length - j) + 1) i (j + 1)) || (eX a b i j && acc a b ((a.length - i) + (b.length - j) + 1) (i + 1) (j + 1))) := rfl
  rw [e1]
  have g : ∀ x y, (a.length - x) + (b.length - y) ≤ (a.length - i) + (b.length - j) + 1 → acc a b ((a.length - i) + (b.length - j) + 1) x y = B a b x y := by
    intro x y h
    have := acc_B a b x y ((a.length - i) + (b.length - j) + 1 - ((a.length - x) + (b.length - y)))
    rw [← this]; congr 1; omega
  rw [g (i + 1) j (by omega), g i (j + 1) (by omega), g (i + 1) (j + 1) (by omega)]

/-! ### the two agree -/
theorem to_end (a b : List Int) : ∀ (k i j : Nat), (a.length - i) + (b.length - j) ≤ k → F a b i j = true → B a b i j = true → F a b a.length b.length = true := by
  intro k
  induction k with
  | zero =>
    intro i j h hF hB
    rw [B_eq] at hB
    simp only [Bool.or_eq_true, Bool.and_eq_true] at hB
    rcases hB with ((hB | hB) | hB) | hB
    · have h1 : i = a.length := by simpa using hB.1
      have h2 : j = b.length := by simpa using hB.2
      rw [← h1, ← h2]; exact hF
    · have := eD_lt hB.1; omega
    · have := eR_lt hB.1; omega
    · have := eX_lt hB.1; omega
  | succ k ih =>
    intro i j h hF hB
    rw [B_eq] at hB
    simp only [Bool.or_eq_true, Bool.and_eq_true] at hB
    rcases hB with ((hB | hB) | hB) | hB
    · have h1 : i = a.length := by simpa using hB.1
      have h2 : j = b.length := by simpa using hB.2
      rw [← h1, ← h2]; exact hF
    · have := eD_lt hB.1
      exact ih (i + 1) j (by omega) (F_down hF hB.1) hB.2
    · have := eR_lt hB.1
      exact ih i (j + 1) (by omega) (F_right hF hB.1) hB.2
    · have := eX_lt hB.1
      exact ih (i + 1) (j + 1) (by omega) (F_across hF hB.1) hB.2

theorem to_start (a b : List Int) : ∀ (k i j : Nat), i + j ≤ k → F a b i j = true → B a b i j = true → B a b 0 0 = true := by
  intro k
  induction k with
  | zero =>
    intro i j h hF hB
    have h1 : i = 0 := by omega
    have h2 : j = 0 := by omega
    subst h1; subst h2; exact hB
  | succ k ih =>
    intro i j h hF hB
    rcases F_pred hF with ⟨h1, h2⟩ | ⟨i', h1, h2, h3⟩ | ⟨j', h1, h2, h3⟩ | ⟨i', j', h1, h1', h2, h3⟩
    · subst h1; subst h2; exact hB
    · subst h1
      refine ih i' j (by omega) h2 ?_
      rw [B_eq, h3, hB]; simp
    · subst h1
      refine ih i j' (by omega) h2 ?_
      rw [B_eq, h3, hB]; simp
    · subst h1; subst h1'
      refine ih i' j' (by omega) h2 ?_
      rw [B_eq, h3, hB]; simp

theorem meet (a b : List Int) : F a b a.length b.length = B a b 0 0 := by
  have hE : B a b a.length b.length = true := by rw [B_eq]; simp
  cases h : B a b 0 0
  · cases h2 : F a b a.length b.length
    · rfl
    · have := to_start a b _ _ _ (Nat.le_refl _) h2 hE
      rw [h] at this; cases this
  · exact to_end a b _ 0 0 (Nat.le_refl _) (F_00 a b) h

/-! ### the inner loop of patternsMeet: row R and next row N at place j -/
def upd (R : Nat → Bool) (k : Nat) : Nat → Bool := fun j => if j = k then true else R j
/-- What the next row holds behind the places below j. -/
def part (a b : List Int) (i j : Nat) : Nat → Bool
  | 0 => decide (0 < j) && F a b i 0 && eD a b i 0
  | k + 1 => (decide (k + 1 < j) && F a b i (k + 1) && eD a b i (k + 1)) || (decide (k < j) && F a b i k && eX a b i k)
structure Inn (a b : List Int) (i j : Nat) (R N : Nat → Bool) : Prop where
  row : ∀ k, k ≤ b.length → R k = if k ≤ j then F a b i k else P a b i k
  nex : ∀ k, k ≤ b.length → N k = part a b i j k

theorem inn_start {a b : List Int} {i : Nat} {R N : Nat → Bool} (hR : ∀ k, k ≤ b.length → R k = P a b i k) (hN : ∀ k, k ≤ b.length → N k = false) : Inn a b i 0 R N := by
  refine ⟨fun k hk => ?_, fun k hk => ?_⟩
  · rw [hR k hk]
    cases k with
    | zero => rw [if_pos (Nat.le_refl _), F_zero]
    | succ k => rw [if_neg (by omega)]
  · rw [hN k hk]
    cases k <;> simp [part]

theorem inn_at {a b : List Int} {i j : Nat} {R N : Nat → Bool} (h : Inn a b i j R N) (hj : j ≤ b.length) : R j = F a b i j := by
  rw [h.row j hj, if_pos (Nat.le_refl _)]

theorem part_step (a b : List Int) (i j k : Nat) : part a b i (j + 1) k = (part a b i j k || (decide (k = j) && F a b i j && eD a b i j) || (decide (k = j + 1) && F a b i j && eX a b i j)) := by
  cases k with
  | zero =>
    simp only [part]
    by_cases h : j = 0
    · subst h; simp
    · have h1 : decide (0 < j) = true := by simp; omega
      have h2 : decide (0 = j) = false := by simp; omega
      have h3 : decide (0 < j + 1) = true := by simp
      have h4 : decide (0 = j + 1) = false := by simp
      rw [h1, h2, h3, h4]; simp
  | succ k =>
    simp only [part]
    by_cases h : k + 1 = j
    · subst h
      have h1 : decide (k + 1 < k + 1 + 1) = true := by simp
      have h2 : decide (k < k + 1 + 1) = true := by simp; omega
      have h3 : decide (k + 1 < k + 1) = false := by simp
      have h4 : decide (k < k + 1) = true := by simp
      have h5 : decide (k + 1 = k + 1) = true := by simp
      have h6 : decide (k + 1 = k + 1 + 1) = false := by simp
      rw [h1, h2, h3, h4, h5, h6]
      simp [Bool.or_comm]
    · by_cases h' : k = j
      · subst h'
        have h1 : decide (k + 1 < k + 1) = false := by simp
        have h2 : decide (k < k + 1) = true := by simp
        have h3 : decide (k + 1 < k) = false := by simp
        have h4 : decide (k < k) = false := by simp
        have h5 : decide (k + 1 = k) = false := by simp
        have h6 : decide (k + 1 = k + 1) = true := by simp
        rw [h1, h2, h3, h4, h5, h6]; simp
      · have h1 : decide (k + 1 < j + 1) = decide (k + 1 < j) := by rw [decide_eq_decide]; omega
        have h2 : decide (k < j + 1) = decide (k < j) := by rw [decide_eq_decide]; omega
        have h5 : decide (k + 1 = j) = false := by simp; omega
        have h6 : decide (k + 1 = j + 1) = false := by simp; omega
        rw [h1, h2, h5, h6]; simp

theorem inn_skip {a b : List Int} {i j : Nat} {R N : Nat → Bool} (h : Inn a b i j R N) (hF : F a b i j = false) : Inn a b i (j + 1) R N := by
  refine ⟨fun k hk => ?_, fun k hk => ?_⟩
  · rw [h.row k hk]
    by_cases h1 : k ≤ j
    · rw [if_pos h1, if_pos (by omega)]
    · rw [if_neg h1]
      by_cases h2 : k = j + 1
      · subst h2; rw [if_pos (Nat.le_refl _), F_succ, hF]; simp
      · rw [if_neg (by omega)]
  · rw [h.nex k hk, part_step, hF]; simp

theorem inn_step {a b : List Int} {i j : Nat} {R N R' N' : Nat → Bool} (h : Inn a b i j R N) (hF : F a b i j = true)
    (hR' : ∀ k, k ≤ b.length → R' k = (R k || (decide (k = j + 1) && eR a b i j)))
    (hN' : ∀ k, k ≤ b.length → N' k = (N k || (decide (k = j) && eD a b i j) || (decide (k = j + 1) && eX a b i j))) : Inn a b i (j + 1) R' N' := by
  refine ⟨fun k hk => ?_, fun k hk => ?_⟩
  · rw [hR' k hk, h.row k hk]
    by_cases h1 : k ≤ j
    · have : decide (k = j + 1) = false := by simp; omega
      rw [if_pos h1, if_pos (by omega), this]; simp
    · rw [if_neg h1]
      by_cases h2 : k = j + 1
      · subst h2; rw [if_pos (Nat.le_refl _), F_succ, hF]; simp
      · have : decide (k = j + 1) = false := by simpa using h2
        rw [if_neg (by omega), this]; simp
  · rw [hN' k hk, h.nex k hk, part_step, hF]; simp

theorem inn_end {a b : List Int} {i : Nat} {R N : Nat → Bool} (h : Inn a b i (b.length + 1) R N) : (∀ k, k ≤ b.length → R k = F a b i k) ∧ (∀ k, k ≤ b.length → N k = P a b (i + 1) k) := by
  refine ⟨fun k hk => by rw [h.row k hk, if_pos (by omega)], fun k hk => ?_⟩
  rw [h.nex k hk]
  show part a b i (b.length + 1) k = nxt (F a b i) (eD a b i) (eX a b i) k
  cases k with
  | zero => simp [part, nxt]
  | succ k =>
    have h1 : decide (k + 1 < b.length + 1) = true := by simp; omega
    have h2 : decide (k < b.length + 1) = true := by simp; omega
    simp only [part, nxt, h1, h2, Bool.true_and]

end Go.Proofs.Qxb6602057aMods
