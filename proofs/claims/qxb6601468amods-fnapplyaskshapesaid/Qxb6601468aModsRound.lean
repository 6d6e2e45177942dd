/- Plain facts on float64 words, no Go in sight: rounding a number that is at most 1 gives a word at most 1, rounding one that is at least 1 gives a word at least 1; so '1 - d <= 1' and '1 <= 1 + u' where d and u are not negative. -/
import Ieee.Arith
namespace Go.Proofs.Qxb6601468aMods.Round
open Ieee

/-- The word of 1: its rung. -/
def one : Nat := 4607182418800017408

theorem log2_lo {n : Nat} (h : n ≠ 0) : 2 ^ n.log2 ≤ n := Nat.log2_self_le h
theorem log2_hi (n : Nat) : n < 2 ^ (n.log2 + 1) := Nat.lt_log2_self

/-! ### the cut -/
theorem cut_ge (neg : Bool) (n drop : Nat) (h : drop ≤ n.log2 + 2) : n / 2 ^ drop ≤ Toward.even.cut neg n drop := by
  unfold Toward.cut
  dsimp only
  rw [Nat.min_eq_left h, Nat.shiftLeft_eq, Nat.one_mul]
  exact Nat.le_add_right _ _

theorem cut_le (neg : Bool) (n drop : Nat) (h : drop ≤ n.log2 + 2) : Toward.even.cut neg n drop ≤ n / 2 ^ drop + 1 := by
  unfold Toward.cut
  dsimp only
  rw [Nat.min_eq_left h, Nat.shiftLeft_eq, Nat.one_mul]
  have : ∀ b : Bool, b.toNat ≤ 1 := by decide
  exact Nat.add_le_add_left (this _) _

theorem cut_exact (neg : Bool) (n drop : Nat) (h : drop ≤ n.log2 + 2) (k : n % 2 ^ drop = 0) : Toward.even.cut neg n drop = n / 2 ^ drop := by
  unfold Toward.cut
  dsimp only
  rw [Nat.min_eq_left h, Nat.shiftLeft_eq, Nat.one_mul, k]
  simp

theorem cut_zero (neg : Bool) (n : Nat) : Toward.even.cut neg n 0 = n := by
  rw [cut_exact neg n 0 (Nat.zero_le _) (by simp [Nat.mod_one])]
  simp

/-! ### the nearest word's rung, at 'mag * 2 ^ -P' -/
def rung (neg : Bool) (mag P : Nat) : Nat :=
  (max (-(P : Int) + mag.log2 - 52) (-1074) + 1074).toNat * 4503599627370496 +
    Toward.even.cut neg (mag <<< (-(P : Int) - max (-(P : Int) + mag.log2 - 52) (-1074)).toNat) (max (-(P : Int) + mag.log2 - 52) (-1074) - -(P : Int)).toNat

theorem nearest_eq (neg : Bool) (mag P : Nat) (h : mag ≠ 0) :
    Ieee.double.nearest neg mag (-(P : Int)) = Ieee.double.word neg (min (rung neg mag P) 9218868437227405312) := by
  have e2 : Ieee.double.binade = 4503599627370496 := by decide
  have e3 : Ieee.double.infRung = 9218868437227405312 := by decide
  have e4 : Ieee.double.leastPlace = -1074 := by decide
  have e5 : Ieee.double.fractionBits = 52 := rfl
  unfold Format.nearest
  rw [if_neg h, e2, e3, e4, e5]
  dsimp only
  unfold rung
  rfl

theorem rung_ge (neg : Bool) (mag P : Nat) (hP : 52 ≤ P) (h : 2 ^ P ≤ mag) : one ≤ rung neg mag P := by
  have h0 : mag ≠ 0 := by have := Nat.two_pow_pos P; omega
  have hL : P ≤ mag.log2 := (Nat.le_log2 h0).2 h
  have hlo := log2_lo h0
  unfold rung one
  generalize hLe : mag.log2 = L at *
  have hmax : max (-(P : Int) + L - 52) (-1074) = -(P : Int) + L - 52 := by omega
  rw [hmax]
  have e1 : (-(P : Int) - (-(P : Int) + L - 52)).toNat = 0 := by omega
  have e2 : (-(P : Int) + L - 52 - -(P : Int)).toNat = L - 52 := by omega
  have e3 : (-(P : Int) + L - 52 + 1074).toNat = L - P + 1022 := by omega
  rw [e1, e2, e3, Nat.shiftLeft_zero]
  have hc := cut_ge neg mag (L - 52) (by omega)
  have hd : 2 ^ 52 ≤ mag / 2 ^ (L - 52) := by
    rw [Nat.le_div_iff_mul_le (Nat.two_pow_pos _), ← Nat.pow_add]
    have : 52 + (L - 52) = L := by omega
    rw [this]; exact hlo
  have h52 : 2 ^ 52 = 4503599627370496 := by decide
  rw [h52] at hd
  have : 4503599627370496 * 1022 ≤ (L - P + 1022) * 4503599627370496 := by omega
  omega

theorem rung_le (neg : Bool) (mag P : Nat) (h0 : mag ≠ 0) (hP : 52 ≤ P) (hP2 : P ≤ 1074) (h : mag ≤ 2 ^ P) : rung neg mag P ≤ one := by
  have hlo := log2_lo h0
  have hhi := log2_hi mag
  have hL : mag.log2 ≤ P := by
    have : mag.log2 < P + 1 := (Nat.log2_lt h0).2 (by rw [Nat.pow_succ]; omega)
    omega
  have h52 : 2 ^ 52 = 4503599627370496 := by decide
  have h53 : 2 ^ 53 = 9007199254740992 := by decide
  unfold rung one
  by_cases hE : mag.log2 = P
  · have hm : mag = 2 ^ P := by rw [hE] at hlo; omega
    have hmax : max (-(P : Int) + mag.log2 - 52) (-1074) = -52 := by omega
    rw [hmax]
    have e1 : (-(P : Int) - -52).toNat = 0 := by omega
    have e2 : ((-52 : Int) - -(P : Int)).toNat = P - 52 := by omega
    rw [e1, e2, Nat.shiftLeft_zero]
    have hs : mag = 2 ^ 52 * 2 ^ (P - 52) := by
      rw [hm, ← Nat.pow_add]; congr 1; omega
    rw [cut_exact neg mag (P - 52) (by omega) (by rw [hs]; exact Nat.mul_mod_left _ _)]
    rw [hs, Nat.mul_div_cancel _ (Nat.two_pow_pos _), h52]
    decide
  · have hLt : mag.log2 < P := by omega
    generalize hLe : mag.log2 = L at *
    by_cases hB : -(P : Int) + L - 52 < -1074
    · have hmax : max (-(P : Int) + L - 52) (-1074) = -1074 := by omega
      rw [hmax]
      have e1 : (-(P : Int) - -1074).toNat = 1074 - P := by omega
      have e2 : ((-1074 : Int) - -(P : Int)).toNat = 0 := by omega
      rw [e1, e2, cut_zero, Nat.shiftLeft_eq]
      have hn : mag * 2 ^ (1074 - P) < 2 ^ 53 := by
        have h1 : mag * 2 ^ (1074 - P) < 2 ^ (L + 1) * 2 ^ (1074 - P) := Nat.mul_lt_mul_of_pos_right hhi (Nat.two_pow_pos _)
        rw [← Nat.pow_add] at h1
        exact Nat.lt_of_lt_of_le h1 (Nat.pow_le_pow_right (by decide) (by omega))
      rw [h53] at hn
      have : (-1074 + 1074 : Int).toNat = 0 := by decide
      rw [this]
      omega
    · have hmax : max (-(P : Int) + L - 52) (-1074) = -(P : Int) + L - 52 := by omega
      rw [hmax]
      have e3 : (-(P : Int) + L - 52 + 1074).toNat ≤ 1021 := by omega
      have hk : Toward.even.cut neg (mag <<< (-(P : Int) - (-(P : Int) + L - 52)).toNat) (-(P : Int) + L - 52 - -(P : Int)).toNat ≤ 9007199254740992 := by
        by_cases hs : L ≤ 52
        · have e1 : (-(P : Int) - (-(P : Int) + L - 52)).toNat = 52 - L := by omega
          have e2 : (-(P : Int) + L - 52 - -(P : Int)).toNat = 0 := by omega
          rw [e1, e2, cut_zero, Nat.shiftLeft_eq]
          have h1 : mag * 2 ^ (52 - L) < 2 ^ (L + 1) * 2 ^ (52 - L) := Nat.mul_lt_mul_of_pos_right hhi (Nat.two_pow_pos _)
          rw [← Nat.pow_add, show L + 1 + (52 - L) = 53 by omega, h53] at h1
          omega
        · have e1 : (-(P : Int) - (-(P : Int) + L - 52)).toNat = 0 := by omega
          have e2 : (-(P : Int) + L - 52 - -(P : Int)).toNat = L - 52 := by omega
          rw [e1, e2, Nat.shiftLeft_zero]
          have hc := cut_le neg mag (L - 52) (by omega)
          have hd : mag / 2 ^ (L - 52) < 2 ^ 53 := by
            rw [Nat.div_lt_iff_lt_mul (Nat.two_pow_pos _), ← Nat.pow_add, show 53 + (L - 52) = L + 1 by omega]
            exact hhi
          rw [h53] at hd
          omega
      generalize (-(P : Int) + L - 52 + 1074).toNat = z at e3 ⊢
      omega

/-! ### words read and compared with 1 -/
theorem read_word (neg : Bool) (r : Nat) (h : r ≤ 9218868437227405312) : Ieee.double.read (Ieee.double.word neg r) =
    if r < 4503599627370496 then .number neg r (-1074)
    else if r < 9218868437227405312 then .number neg (4503599627370496 + r % 4503599627370496) (-1074 + ((r / 4503599627370496 - 1 : Nat) : Int))
    else .infinity neg := by
  have e1 : Ieee.double.signWeight = 9223372036854775808 := by decide
  have e2 : Ieee.double.binade = 4503599627370496 := by decide
  have e3 : Ieee.double.infRung = 9218868437227405312 := by decide
  have e4 : Ieee.double.leastPlace = -1074 := by decide
  have hr : Ieee.double.word neg r % 9223372036854775808 = r := by unfold Format.word; rw [e1]; split <;> omega
  have hs : (Ieee.double.word neg r / 9223372036854775808 % 2 == 1) = neg := by
    unfold Format.word; rw [e1]
    cases neg
    · have : r / 9223372036854775808 % 2 = 0 := by omega
      simp [this]
    · have : (9223372036854775808 + r) / 9223372036854775808 % 2 = 1 := by omega
      rw [if_pos rfl, this]; rfl
  unfold Format.read
  rw [e1, e2, e3, e4, hr, hs]
  dsimp only
  by_cases h1 : r < 4503599627370496
  · rw [if_pos h1, if_pos h1]
  · rw [if_neg h1, if_neg h1]
    by_cases h2 : r < 9218868437227405312
    · rw [if_pos h2, if_pos h2]
    · rw [if_neg h2, if_neg h2, if_pos (by omega)]

theorem read_one : Ieee.double.read 4607182418800017408 = .number false 4503599627370496 (-52) := by decide

theorem lt_or_eq {a b : Int} (h : a ≤ b) : some (compare a b) = some Ordering.lt ∨ some (compare a b) = some Ordering.eq := by
  by_cases e : a = b
  · right; rw [Int.compare_eq_eq.2 e]
  · left; rw [Int.compare_eq_lt.2 (by omega)]

theorem le_one (neg : Bool) (r : Nat) (h : r ≤ one) :
    Ieee.double.order (Ieee.double.word neg r) 4607182418800017408 = some .lt ∨ Ieee.double.order (Ieee.double.word neg r) 4607182418800017408 = some .eq := by
  unfold one at h
  unfold Format.order
  rw [read_one, read_word neg r (by omega)]
  by_cases h1 : r < 4503599627370496
  · rw [if_pos h1]
    refine lt_or_eq ?_
    have e1 : ((-1074 : Int) - min (-1074) (-52)).toNat = 0 := by decide
    generalize ((-52 : Int) - min (-1074) (-52)).toNat = E
    rw [e1]
    have hp : 1 ≤ 2 ^ E := Nat.one_le_two_pow
    unfold signed
    rw [Nat.shiftLeft_zero, Nat.shiftLeft_eq]
    have : 4503599627370496 * 1 ≤ 4503599627370496 * 2 ^ E := Nat.mul_le_mul_left _ hp
    generalize 4503599627370496 * 2 ^ E = z at this ⊢
    cases neg <;> simp <;> omega
  · rw [if_neg h1, if_pos (by omega)]
    refine lt_or_eq ?_
    have hq : 1 ≤ r / 4503599627370496 := by omega
    have hq2 : r / 4503599627370496 ≤ 1023 := by omega
    have hm : r / 4503599627370496 = 1023 → r % 4503599627370496 = 0 := by omega
    have hm2 : r % 4503599627370496 < 4503599627370496 := Nat.mod_lt _ (by decide)
    generalize r / 4503599627370496 = q at hq hq2 hm ⊢
    generalize r % 4503599627370496 = f at hm hm2 ⊢
    have e0 : min (-1074 + ((q - 1 : Nat) : Int)) (-52) = -1074 + ((q - 1 : Nat) : Int) := by omega
    rw [e0]
    have e1 : (-1074 + ((q - 1 : Nat) : Int) - (-1074 + ((q - 1 : Nat) : Int))).toNat = 0 := by omega
    have e2 : (-52 - (-1074 + ((q - 1 : Nat) : Int))).toNat = 1023 - q := by omega
    rw [e1, e2]
    unfold signed
    rw [Nat.shiftLeft_zero, Nat.shiftLeft_eq]
    by_cases hE : q = 1023
    · subst hE
      rw [hm rfl]
      cases neg <;> decide
    · have hp : 2 ^ 1 ≤ 2 ^ (1023 - q) := Nat.pow_le_pow_right (by decide) (by omega)
      have : 4503599627370496 * 2 ^ 1 ≤ 4503599627370496 * 2 ^ (1023 - q) := Nat.mul_le_mul_left _ hp
      generalize 4503599627370496 * 2 ^ (1023 - q) = z at this ⊢
      cases neg <;> simp <;> omega

theorem neg_le (m E n F : Nat) : signed true m E ≤ signed false n F := by
  show -((m <<< E : Nat) : Int) ≤ ((n <<< F : Nat) : Int)
  generalize m <<< E = a
  generalize n <<< F = b
  omega

theorem le_neg (r : Nat) (h : r ≤ 9218868437227405312) :
    Ieee.double.order (Ieee.double.word true r) 4607182418800017408 = some .lt ∨ Ieee.double.order (Ieee.double.word true r) 4607182418800017408 = some .eq := by
  unfold Format.order
  rw [read_one, read_word true r h]
  by_cases h1 : r < 4503599627370496
  · rw [if_pos h1]
    exact lt_or_eq (neg_le _ _ _ _)
  · rw [if_neg h1]
    by_cases h2 : r < 9218868437227405312
    · rw [if_pos h2]
      exact lt_or_eq (neg_le _ _ _ _)
    · rw [if_neg h2]
      left; rfl

theorem ge_one (r : Nat) (h : one ≤ r) (h2 : r ≤ 9218868437227405312) :
    Ieee.double.order 4607182418800017408 (Ieee.double.word false r) = some .lt ∨ Ieee.double.order 4607182418800017408 (Ieee.double.word false r) = some .eq := by
  unfold one at h
  unfold Format.order
  rw [read_one, read_word false r h2, if_neg (by omega)]
  by_cases h3 : r < 9218868437227405312
  · rw [if_pos h3]
    refine lt_or_eq ?_
    have hq : 1023 ≤ r / 4503599627370496 := by omega
    generalize r / 4503599627370496 = q at hq ⊢
    generalize r % 4503599627370496 = f
    have e0 : min (-52) (-1074 + ((q - 1 : Nat) : Int)) = -52 := by omega
    rw [e0]
    have e1 : (-1074 + ((q - 1 : Nat) : Int) - -52).toNat = q - 1023 := by omega
    have e2 : ((-52 : Int) - -52).toNat = 0 := by decide
    rw [e1, e2]
    unfold signed
    rw [Nat.shiftLeft_zero, Nat.shiftLeft_eq]
    have hp : 1 ≤ 2 ^ (q - 1023) := Nat.one_le_two_pow
    have : (4503599627370496 + f) * 1 ≤ (4503599627370496 + f) * 2 ^ (q - 1023) := Nat.mul_le_mul_left _ hp
    generalize (4503599627370496 + f) * 2 ^ (q - 1023) = z at this ⊢
    simp
    omega
  · rw [if_neg h3]
    left; rfl

/-! ### what is not negative -/
theorem read_place (x : Nat) (s : Bool) (m : Nat) (i : Int) (h : Ieee.double.read x = .number s m i) : -1074 ≤ i := by
  have e4 : Ieee.double.leastPlace = -1074 := by decide
  unfold Format.read at h
  rw [e4] at h
  dsimp only at h
  split at h
  · injection h with _ _ h3; omega
  · split at h
    · injection h with _ _ h3; omega
    · split at h <;> cases h

theorem read_zero : Ieee.double.read 0 = .number false 0 (-1074) := by decide

theorem nonneg_read (x : Nat) (h : Ieee.double.order x 0 = some .gt ∨ Ieee.double.order x 0 = some .eq) :
    Ieee.double.read x = .infinity false ∨ ∃ s m i, Ieee.double.read x = .number s m i ∧ (s = false ∨ m = 0) ∧ -1074 ≤ i := by
  unfold Format.order at h
  rw [read_zero] at h
  rcases hx : Ieee.double.read x with ⟨s, m, i⟩ | s | ⟨s, f⟩
  · rw [hx] at h
    refine .inr ⟨s, m, i, rfl, ?_, read_place x s m i hx⟩
    cases s
    · exact .inl rfl
    · refine .inr ?_
      unfold Datum.order at h
      dsimp only at h
      generalize (i - min i (-1074)).toNat = E at h
      generalize ((-1074 : Int) - min i (-1074)).toNat = F at h
      have hz : signed false 0 F = 0 := by unfold signed; simp
      rw [hz] at h
      have hs : signed true m E = -((m * 2 ^ E : Nat) : Int) := by unfold signed; rw [Nat.shiftLeft_eq]; rfl
      rw [hs] at h
      have hge : ¬ (-((m * 2 ^ E : Nat) : Int) < 0) := by
        intro hlt
        rw [Int.compare_eq_lt.2 hlt] at h
        rcases h with h | h <;> cases h
      have hm : m * 2 ^ E = 0 := by omega
      rcases Nat.mul_eq_zero.1 hm with h1 | h1
      · exact h1
      · exact absurd h1 (Nat.ne_of_gt (Nat.two_pow_pos _))
  · rw [hx] at h
    cases s
    · exact .inl rfl
    · rcases h with h | h <;> cases h
  · rw [hx] at h
    rcases h with h | h <;> cases h

theorem signed_one (P : Nat) (base : Int) (hb : base = -(P : Int)) (hP : 52 ≤ P) : signed false 4503599627370496 (-52 - base).toNat = ((2 ^ P : Nat) : Int) := by
  have e : (-52 - base).toNat = P - 52 := by omega
  have h52 : 4503599627370496 = 2 ^ 52 := by decide
  unfold signed
  rw [e, Nat.shiftLeft_eq, h52, ← Nat.pow_add, show 52 + (P - 52) = P by omega]
  rfl

/-- '1 - d <= 1' where d is not negative: the difference is no NaN, and it compares so. -/
theorem sub_le (d : Nat) (h : Ieee.double.order d 0 = some .gt ∨ Ieee.double.order d 0 = some .eq) :
    ∃ x, Ieee.double.sub 4607182418800017408 d = some x ∧ (Ieee.double.order x 4607182418800017408 = some .lt ∨ Ieee.double.order x 4607182418800017408 = some .eq) := by
  unfold Format.sub
  rw [read_one]
  rcases nonneg_read d h with hd | ⟨s, m, i, hd, hs, hi⟩
  · rw [hd]
    exact ⟨_, rfl, by decide⟩
  · rw [hd]
    unfold Datum.opposite Datum.sum
    dsimp only
    refine ⟨_, rfl, ?_⟩
    unfold Format.write
    dsimp only
    have hbase : ∃ P : Nat, min (-52) i = -(P : Int) ∧ 52 ≤ P ∧ P ≤ 1074 := ⟨(-(min (-52) i)).toNat, by omega, by omega, by omega⟩
    obtain ⟨P, hb, hP, hP2⟩ := hbase
    rw [signed_one P _ hb hP, hb]
    generalize (i - -(P : Int)).toNat = E
    have ht : ((2 ^ P : Nat) : Int) + signed (!s) m E ≤ ((2 ^ P : Nat) : Int) := by
      have : signed (!s) m E ≤ 0 := by
        unfold signed
        rcases hs with rfl | rfl
        · show -((m <<< E : Nat) : Int) ≤ 0
          generalize m <<< E = a
          omega
        · cases s <;> simp
      omega
    generalize ((2 ^ P : Nat) : Int) + signed (!s) m E = T at ht ⊢
    by_cases hT0 : T = 0
    · rw [if_pos hT0, hT0]
      unfold Format.nearest
      rw [if_pos (by decide)]
      exact le_one _ 0 (by decide)
    · rw [if_neg hT0, nearest_eq _ _ _ (by omega)]
      by_cases hT : T < 0
      · rw [decide_eq_true hT]
        exact le_neg _ (Nat.min_le_right _ _)
      · rw [decide_eq_false hT]
        refine le_one _ _ (Nat.le_trans (Nat.min_le_left _ _) (rung_le _ _ _ (by omega) hP hP2 ?_))
        omega

/-- '1 <= 1 + u' where u is not negative: the sum is no NaN, and it compares so. -/
theorem add_ge (u : Nat) (h : Ieee.double.order u 0 = some .gt ∨ Ieee.double.order u 0 = some .eq) :
    ∃ x, Ieee.double.add 4607182418800017408 u = some x ∧ (Ieee.double.order 4607182418800017408 x = some .lt ∨ Ieee.double.order 4607182418800017408 x = some .eq) := by
  unfold Format.add
  rw [read_one]
  rcases nonneg_read u h with hd | ⟨s, m, i, hd, hs, hi⟩
  · rw [hd]
    exact ⟨_, rfl, by decide⟩
  · rw [hd]
    unfold Datum.sum
    dsimp only
    refine ⟨_, rfl, ?_⟩
    unfold Format.write
    dsimp only
    have hbase : ∃ P : Nat, min (-52) i = -(P : Int) ∧ 52 ≤ P ∧ P ≤ 1074 := ⟨(-(min (-52) i)).toNat, by omega, by omega, by omega⟩
    obtain ⟨P, hb, hP, hP2⟩ := hbase
    rw [signed_one P _ hb hP, hb]
    generalize (i - -(P : Int)).toNat = E
    have hpos := Nat.two_pow_pos P
    have ht : ((2 ^ P : Nat) : Int) ≤ ((2 ^ P : Nat) : Int) + signed s m E := by
      have : 0 ≤ signed s m E := by
        unfold signed
        rcases hs with rfl | rfl
        · show 0 ≤ ((m <<< E : Nat) : Int)
          generalize m <<< E = a
          omega
        · cases s <;> simp
      omega
    generalize ((2 ^ P : Nat) : Int) + signed s m E = T at ht ⊢
    have hT0 : ¬ T = 0 := by omega
    have hT : ¬ T < 0 := by omega
    rw [if_neg hT0, decide_eq_false hT, nearest_eq _ _ _ (by omega)]
    refine ge_one _ ?_ (Nat.min_le_right _ _)
    have := rung_ge false T.natAbs P hP (by omega)
    have h9 : one ≤ 9218868437227405312 := by decide
    omega

/-! ### both zero: the bounds are 1 itself -/
theorem zero_read (x : Nat) (h : Ieee.double.order x 0 = some .eq) : ∃ s i, Ieee.double.read x = .number s 0 i ∧ -1074 ≤ i := by
  unfold Format.order at h
  rw [read_zero] at h
  rcases hx : Ieee.double.read x with ⟨s, m, i⟩ | s | ⟨s, f⟩
  · rw [hx] at h
    have hm : m = 0 := by
      unfold Datum.order at h
      dsimp only at h
      generalize (i - min i (-1074)).toNat = E at h
      generalize ((-1074 : Int) - min i (-1074)).toNat = F at h
      have hz : signed false 0 F = 0 := by unfold signed; simp
      rw [hz] at h
      injection h with h
      have h := Int.compare_eq_eq.1 h
      have hm : m * 2 ^ E = 0 := by
        unfold signed at h
        rw [Nat.shiftLeft_eq] at h
        generalize m * 2 ^ E = z at h ⊢
        cases s <;> simp at h <;> omega
      rcases Nat.mul_eq_zero.1 hm with h1 | h1
      · exact h1
      · exact absurd h1 (Nat.ne_of_gt (Nat.two_pow_pos _))
    subst hm
    exact ⟨s, i, rfl, read_place x s 0 i hx⟩
  · rw [hx] at h
    cases s <;> cases h
  · rw [hx] at h
    cases h

theorem nearest_pow (P : Nat) (hP : 52 ≤ P) (hP2 : P ≤ 1074) : Ieee.double.nearest false (2 ^ P) (-(P : Int)) = 4607182418800017408 := by
  have hpos := Nat.two_pow_pos P
  rw [nearest_eq _ _ _ (by omega)]
  have h1 := rung_ge false (2 ^ P) P hP (Nat.le_refl _)
  have h2 := rung_le false (2 ^ P) P (by omega) hP hP2 (Nat.le_refl _)
  have h3 : rung false (2 ^ P) P = 4607182418800017408 := by unfold one at h1 h2; omega
  rw [h3]
  decide

theorem sub_zero (d : Nat) (h : Ieee.double.order d 0 = some .eq) : Ieee.double.sub 4607182418800017408 d = some 4607182418800017408 := by
  obtain ⟨s, i, hd, hi⟩ := zero_read d h
  unfold Format.sub
  rw [read_one, hd]
  unfold Datum.opposite Datum.sum
  dsimp only
  have hbase : ∃ P : Nat, min (-52) i = -(P : Int) ∧ 52 ≤ P ∧ P ≤ 1074 := ⟨(-(min (-52) i)).toNat, by omega, by omega, by omega⟩
  obtain ⟨P, hb, hP, hP2⟩ := hbase
  rw [signed_one P _ hb hP, hb]
  have hz : ∀ E, signed (!s) 0 E = 0 := by intro E; unfold signed; cases s <;> simp
  rw [hz, Int.add_zero]
  have hpos := Nat.two_pow_pos P
  rw [if_neg (by omega), decide_eq_false (by omega), Int.natAbs_natCast]
  show some (Ieee.double.nearest false (2 ^ P) (-(P : Int))) = _
  rw [nearest_pow P hP hP2]

theorem add_zero (u : Nat) (h : Ieee.double.order u 0 = some .eq) : Ieee.double.add 4607182418800017408 u = some 4607182418800017408 := by
  obtain ⟨s, i, hd, hi⟩ := zero_read u h
  unfold Format.add
  rw [read_one, hd]
  unfold Datum.sum
  dsimp only
  have hbase : ∃ P : Nat, min (-52) i = -(P : Int) ∧ 52 ≤ P ∧ P ≤ 1074 := ⟨(-(min (-52) i)).toNat, by omega, by omega, by omega⟩
  obtain ⟨P, hb, hP, hP2⟩ := hbase
  rw [signed_one P _ hb hP, hb]
  have hz : ∀ E, signed s 0 E = 0 := by intro E; unfold signed; cases s <;> simp
  rw [hz, Int.add_zero]
  have hpos := Nat.two_pow_pos P
  rw [if_neg (by omega), decide_eq_false (by omega), Int.natAbs_natCast]
  show some (Ieee.double.nearest false (2 ^ P) (-(P : Int))) = _
  rw [nearest_pow P hP hP2]

/-- Two words each at most the other are equal in the order. -/
theorem order_swap (x y : Nat) : Ieee.double.order x y = (Ieee.double.order y x).map Ordering.swap := by
  unfold Format.order
  rcases Ieee.double.read x with ⟨s, m, i⟩ | s | ⟨s, f⟩ <;> rcases Ieee.double.read y with ⟨t, n, j⟩ | t | ⟨t, g⟩
  · unfold Datum.order
    dsimp only [Option.map]
    rw [Int.min_comm i j, Int.compare_swap]
  · cases t <;> rfl
  · rfl
  · cases s <;> rfl
  · cases s <;> cases t <;> rfl
  · rfl
  · rfl
  · rfl
  · rfl

theorem between (r : Nat) (h1 : Ieee.double.order 4607182418800017408 r = some .lt ∨ Ieee.double.order 4607182418800017408 r = some .eq)
    (h2 : Ieee.double.order r 4607182418800017408 = some .lt ∨ Ieee.double.order r 4607182418800017408 = some .eq) : Ieee.double.order r 4607182418800017408 = some .eq := by
  rcases h2 with h2 | h2
  · rw [order_swap, h2] at h1
    rcases h1 with h1 | h1 <;> cases h1
  · exact h2

/-- What is no NaN is equal to itself, and of what is equal to a zero the inverse is no NaN. -/
theorem order_self (x : Nat) (h : ∀ s f, Ieee.double.read x ≠ .nan s f) : Ieee.double.order x x = some .eq := by
  unfold Format.order
  rcases hx : Ieee.double.read x with ⟨s, m, i⟩ | s | ⟨s, f⟩
  · unfold Datum.order
    dsimp only
    rw [Int.compare_eq_eq.2 rfl]
  · cases s <;> rfl
  · exact absurd hx (h s f)

end Go.Proofs.Qxb6601468aMods.Round
