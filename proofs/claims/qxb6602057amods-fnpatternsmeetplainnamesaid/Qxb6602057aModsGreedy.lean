/- The greedy matcher, plainly: against a name without a star and without a question mark it answers B at the start. No Go in sight. -/
import Derived.Test.Qxb6602057aModsPlain
namespace Go.Proofs.Qxb6602057aMods

/-- No star, no question mark. -/
def Pl (b : List Int) : Prop := ∀ j, j < b.length → b.getD j 0 ≠ 42 ∧ b.getD j 0 ≠ 63

theorem pl_st {b : List Int} (hb : Pl b) (j : Nat) : stA b j = false := by
  unfold stA
  by_cases h : j < b.length
  · have := (hb j h).1
    simp only [Bool.and_eq_false_iff]; right; simpa using this
  · simp [h]
theorem pl_on {b : List Int} (hb : Pl b) (j : Nat) : onA b j = decide (j < b.length) := by
  unfold onA
  by_cases h : j < b.length
  · have := (hb j h).1
    have h2 : (b.getD j 0 == 42) = false := by simpa using this
    rw [h2]; simp
  · simp [h]
theorem pl_mt {a b : List Int} (hb : Pl b) (i j : Nat) (h : j < b.length) : mt a b i j = (a.getD i 0 == 63 || a.getD i 0 == b.getD j 0) := by
  unfold mt
  have := (hb j h).2
  have h2 : (b.getD j 0 == 63) = false := by simpa using this
  rw [h2]; simp
theorem st_on {a : List Int} {i : Nat} (h : stA a i = true) : onA a i = false := by
  simp only [stA, Bool.and_eq_true] at h
  simp only [onA, h.2, Bool.not_true, Bool.and_false]
theorem on_st {a : List Int} {i : Nat} (h : onA a i = true) : stA a i = false := by
  simp only [onA, Bool.and_eq_true] at h
  have : (a.getD i 0 == 42) = false := by simpa using h.2
  simp only [stA, this, Bool.and_false]

theorem B_star {a b : List Int} (hb : Pl b) {i : Nat} (h : stA a i = true) (j : Nat) : B a b i j = (B a b (i + 1) j || (decide (j < b.length) && B a b i (j + 1))) := by
  rw [B_eq]
  have h1 : (i == a.length) = false := by have := stA_lt h; simp; omega
  have h2 : eD a b i j = true := by simp [eD, h]
  have h3 : eR a b i j = decide (j < b.length) := by simp only [eR, pl_st hb, h, pl_on hb, Bool.false_or, Bool.true_and]
  have h4 : eX a b i j = false := by simp [eX, st_on h]
  rw [h1, h2, h3, h4]; simp
theorem B_one {a b : List Int} (hb : Pl b) {i : Nat} (h : onA a i = true) (j : Nat) : B a b i j = (decide (j < b.length) && (a.getD i 0 == 63 || a.getD i 0 == b.getD j 0) && B a b (i + 1) (j + 1)) := by
  rw [B_eq]
  have h1 : (i == a.length) = false := by have := onA_lt h; simp; omega
  have h2 : eD a b i j = false := by simp [eD, on_st h, pl_st hb]
  have h3 : eR a b i j = false := by simp [eR, pl_st hb, on_st h]
  have h4 : eX a b i j = (decide (j < b.length) && (a.getD i 0 == 63 || a.getD i 0 == b.getD j 0)) := by
    simp only [eX, h, pl_on hb, Bool.true_and]
    by_cases hj : j < b.length
    · rw [pl_mt hb i j hj]
    · simp [hj]
  rw [h1, h2, h3, h4]; simp
theorem B_last {a b : List Int} (hb : Pl b) (j : Nat) : B a b a.length j = (j == b.length) := by
  rw [B_eq]
  have s : stA a a.length = false := by simp [stA]
  have o : onA a a.length = false := by simp [onA]
  have h2 : eD a b a.length j = false := by simp [eD, s, o]
  have h3 : eR a b a.length j = false := by simp [eR, pl_st hb, s]
  have h4 : eX a b a.length j = false := by simp [eX, o]
  rw [h2, h3, h4]; simp

/-- A star takes more. -/
theorem B_more {a b : List Int} (hb : Pl b) {i : Nat} (h : stA a i = true) : ∀ d j, j + d ≤ b.length → B a b i (j + d) = true → B a b i j = true := by
  intro d
  induction d with
  | zero => intro j _ hB; exact hB
  | succ d ih =>
    intro j hj hB
    have : B a b i (j + 1) = true := ih (j + 1) (by omega) (by rw [show j + 1 + d = j + (d + 1) by omega]; exact hB)
    rw [B_star hb h, this]
    have : decide (j < b.length) = true := by simp; omega
    rw [this]; simp
/-- What a star leads to: a place from which the rest goes on. -/
theorem B_star_at {a b : List Int} (hb : Pl b) {i : Nat} (h : stA a i = true) : ∀ f j, b.length - j ≤ f → j ≤ b.length → B a b i j = true → ∃ k, j ≤ k ∧ k ≤ b.length ∧ B a b (i + 1) k = true := by
  intro f
  induction f with
  | zero =>
    intro j hf hj hB
    rw [B_star hb h] at hB
    have : decide (j < b.length) = false := by simp; omega
    rw [this] at hB
    exact ⟨j, Nat.le_refl _, hj, by simpa using hB⟩
  | succ f ih =>
    intro j hf hj hB
    rw [B_star hb h, Bool.or_eq_true, Bool.and_eq_true] at hB
    rcases hB with hB | hB
    · exact ⟨j, Nat.le_refl _, hj, hB⟩
    · have hlt : j < b.length := by simpa using hB.1
      obtain ⟨k, h1, h2, h3⟩ := ih (j + 1) (by omega) (by omega) hB.2
      exact ⟨k, by omega, h2, h3⟩
/-- A stretch without a star is forced. -/
theorem B_seg {a b : List Int} (hb : Pl b) : ∀ d i j, (∀ k, i ≤ k → k < i + d → onA a k = true) → j ≤ b.length → B a b i j = true → j + d ≤ b.length ∧ B a b (i + d) (j + d) = true := by
  intro d
  induction d with
  | zero => intro i j _ hj hB; exact ⟨hj, hB⟩
  | succ d ih =>
    intro i j ho hj hB
    rw [B_one hb (ho i (Nat.le_refl _) (by omega))] at hB
    simp only [Bool.and_eq_true] at hB
    have hlt : j < b.length := by simpa using hB.1.1
    have := ih (i + 1) (j + 1) (fun k h1 h2 => ho k (by omega) (by omega)) (by omega) hB.2
    rw [show i + 1 + d = i + (d + 1) by omega, show j + 1 + d = j + (d + 1) by omega] at this
    exact this

/-! ### the matcher's state -/
structure Gr (a b : List Int) (pi si : Nat) (star : Int) (mark : Nat) : Prop where
  hp : pi ≤ a.length
  hs : si ≤ b.length
  hm : mark ≤ si
  alt : (star = -1 ∧ B a b 0 0 = B a b pi si) ∨ (∃ st : Nat, star = (st : Int) ∧ stA a st = true ∧ st < pi ∧ (∀ k, st + 1 ≤ k → k < pi → onA a k = true) ∧ pi - (st + 1) = si - mark ∧
    B a b 0 0 = B a b st mark ∧ B a b (st + 1) mark = B a b pi si)

theorem gr_start (a b : List Int) : Gr a b 0 0 (-1) 0 := ⟨Nat.zero_le _, Nat.zero_le _, Nat.le_refl _, .inl ⟨rfl, rfl⟩⟩

theorem gr_match {a b : List Int} (hb : Pl b) {pi si : Nat} {star : Int} {mark : Nat} (h : Gr a b pi si star mark) (hs : si < b.length) (ho : onA a pi = true)
    (hmt : (a.getD pi 0 == 63 || a.getD pi 0 == b.getD si 0) = true) : Gr a b (pi + 1) (si + 1) star mark := by
  have hlt := onA_lt ho
  have hB : B a b pi si = B a b (pi + 1) (si + 1) := by
    rw [B_one hb ho, hmt]
    have : decide (si < b.length) = true := by simpa using hs
    rw [this]; simp
  have := h.hm
  refine ⟨by omega, by omega, by omega, ?_⟩
  rcases h.alt with ⟨h1, h2⟩ | ⟨st, h1, h2, h3, h4, h5, h6, h7⟩
  · exact .inl ⟨h1, by rw [h2, hB]⟩
  · refine .inr ⟨st, h1, h2, by omega, fun k k1 k2 => ?_, by omega, h6, by rw [h7, hB]⟩
    by_cases hk : k = pi
    · subst hk; exact ho
    · exact h4 k k1 (by omega)

/-- Behind the stretch since the last star the rest is decided here. -/
theorem gr_here {a b : List Int} (hb : Pl b) {pi si : Nat} {star : Int} {mark : Nat} (h : Gr a b pi si star mark) (hx : stA a pi = true ∨ si = b.length) : B a b 0 0 = B a b pi si := by
  have hm := h.hm
  have hsl := h.hs
  rcases h.alt with ⟨h1, h2⟩ | ⟨st, h1, h2, h3, h4, h5, h6, h7⟩
  · exact h2
  · rw [h6]
    cases hB : B a b st mark
    · cases hC : B a b pi si
      · rfl
      · rw [← h7] at hC
        rw [B_star hb h2, hC] at hB
        simp at hB
    · obtain ⟨k, k1, k2, k3⟩ := B_star_at hb h2 _ mark (Nat.le_refl _) (by omega) hB
      have hseg := B_seg hb (pi - (st + 1)) (st + 1) k (fun x x1 x2 => h4 x x1 (by omega)) k2 k3
      rw [show st + 1 + (pi - (st + 1)) = pi by omega] at hseg
      rcases hx with hx | hx
      · have : B a b pi si = true := by
          refine B_more hb hx (k - mark) si (by omega) ?_
          rw [show si + (k - mark) = k + (pi - (st + 1)) by omega]; exact hseg.2
        exact this.symm
      · have : k = mark := by omega
        subst this
        rw [← h7]; exact k3.symm

theorem gr_star {a b : List Int} (hb : Pl b) {pi si : Nat} {star : Int} {mark : Nat} (h : Gr a b pi si star mark) (hst : stA a pi = true) : Gr a b (pi + 1) si (pi : Int) si := by
  have hlt := stA_lt hst
  have := h.hs
  refine ⟨by omega, by omega, Nat.le_refl _, .inr ⟨pi, rfl, hst, by omega, fun k k1 k2 => by omega, by omega, gr_here hb h (.inl hst), rfl⟩⟩

theorem B_stuck {a b : List Int} (hb : Pl b) {pi si : Nat} (hp : pi ≤ a.length) (hs : si < b.length) (hn : stA a pi = false) (hm : (onA a pi && (a.getD pi 0 == 63 || a.getD pi 0 == b.getD si 0)) = false) : B a b pi si = false := by
  cases ho : onA a pi
  · have hpn : pi = a.length := by
      by_cases hlt : pi < a.length
      · exfalso
        have h1 : decide (pi < a.length) = true := by simpa using hlt
        simp only [stA, h1, Bool.true_and] at hn
        simp only [onA, h1, Bool.true_and, hn] at ho
        cases ho
      · omega
    subst hpn
    rw [B_last hb]; simp; omega
  · rw [ho, Bool.true_and] at hm
    rw [B_one hb ho, hm]; simp

theorem gr_back {a b : List Int} (hb : Pl b) {pi si st : Nat} {mark : Nat} (h : Gr a b pi si (st : Int) mark) (hs : si < b.length) (hn : stA a pi = false)
    (hm : (onA a pi && (a.getD pi 0 == 63 || a.getD pi 0 == b.getD si 0)) = false) : Gr a b (st + 1) (mark + 1) (st : Int) (mark + 1) := by
  have hmk := h.hm
  have hB := B_stuck hb h.hp hs hn hm
  rcases h.alt with ⟨h1, h2⟩ | ⟨st', h1, h2, h3, h4, h5, h6, h7⟩
  · omega
  · have : st' = st := by omega
    subst this
    have hlt := stA_lt h2
    refine ⟨by omega, by omega, Nat.le_refl _, .inr ⟨st', rfl, h2, by omega, fun k k1 k2 => by omega, by omega, ?_, rfl⟩⟩
    rw [h6, B_star hb h2, h7, hB]
    have : decide (mark < b.length) = true := by simp; omega
    rw [this]; simp

theorem gr_fail {a b : List Int} (hb : Pl b) {pi si : Nat} {star : Int} {mark : Nat} (h : Gr a b pi si star mark) (hst : star < 0) (hs : si < b.length) (hn : stA a pi = false)
    (hm : (onA a pi && (a.getD pi 0 == 63 || a.getD pi 0 == b.getD si 0)) = false) : B a b 0 0 = false := by
  rcases h.alt with ⟨h1, h2⟩ | ⟨st, h1, _⟩
  · rw [h2]; exact B_stuck hb h.hp hs hn hm
  · omega

theorem gr_end {a b : List Int} (hb : Pl b) {pi : Nat} {star : Int} {mark : Nat} (h : Gr a b pi b.length star mark) : B a b 0 0 = B a b pi b.length := gr_here hb h (.inr rfl)

theorem tail_star {a b : List Int} (hb : Pl b) {pi : Nat} (h : stA a pi = true) : B a b pi b.length = B a b (pi + 1) b.length := by
  rw [B_star hb h]; simp
theorem tail_end {a b : List Int} (hb : Pl b) {pi : Nat} (hp : pi ≤ a.length) (h : stA a pi = false) : B a b pi b.length = (pi == a.length) := by
  by_cases hlt : pi < a.length
  · have ho : onA a pi = true := by
      have h1 : decide (pi < a.length) = true := by simpa using hlt
      simp only [stA, h1, Bool.true_and] at h
      simp only [onA, h1, Bool.true_and, h]; rfl
    rw [B_one hb ho]
    have : (pi == a.length) = false := by simp; omega
    rw [this]; simp
  · have : pi = a.length := by omega
    subst this
    rw [B_last hb]; simp

/-- The loop's measure. -/
def grMu (n m pi si mark : Nat) : Nat := (m - mark) * (n + m + 1) + (n - pi) + (m - si)
theorem mu_match {n m pi si mark : Nat} (h : si < m) : grMu n m (pi + 1) (si + 1) mark < grMu n m pi si mark := by
  unfold grMu
  generalize (m - mark) * (n + m + 1) = z
  omega
theorem mu_star {n m pi si mark : Nat} (h : pi < n) (hm : mark ≤ si) : grMu n m (pi + 1) si si < grMu n m pi si mark := by
  unfold grMu
  have : (m - si) * (n + m + 1) ≤ (m - mark) * (n + m + 1) := Nat.mul_le_mul_right _ (by omega)
  generalize (m - si) * (n + m + 1) = y at this ⊢
  generalize (m - mark) * (n + m + 1) = z at this ⊢
  omega
theorem mu_back {n m pi si st mark : Nat} (hs : si < m) (hm : mark ≤ si) : grMu n m (st + 1) (mark + 1) (mark + 1) < grMu n m pi si mark := by
  unfold grMu
  have : (m - mark) * (n + m + 1) = (m - (mark + 1)) * (n + m + 1) + (n + m + 1) := by
    rw [← Nat.succ_mul]; congr 1; omega
  rw [this]
  generalize (m - (mark + 1)) * (n + m + 1) = y
  omega

end Go.Proofs.Qxb6602057aMods
