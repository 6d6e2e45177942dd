/- The proof of Rows.FnApplyAskShapeSaid: the guide's frame for this function, the walk filled in. -/
import Derived.Test.Qxb6601468aModsRows
import Derived.WalkKit
import Derived.ProofKit
import Derived.OpenShut
import Derived.ShutString
import Derived.Below
import Derived.Laws.Cover2
import Derived.Test.Qxb6601468aModsApply
import Derived.Test.Qxb6601468aModsRound
namespace Go.Proofs.Qxb6601468aMods.fnApplyAskShape
open Go.ChangeShapes Go.WideShapes Go.ChangeAt Go.RowKit
open Go.ChangeMaps (open_string shut_string)
set_option linter.unusedVariables false

theorem own : ownKnob Trym.prog.godebug = none := by kernel_rfl

/-! ### the plain law: no Go in sight -/
theorem not_nan_add {x y : Nat} (h : Ieee.double.add 4607182418800017408 x = some y) : ∀ s f, Ieee.double.read x ≠ .nan s f := by
  intro s f hx
  unfold Ieee.Format.add at h
  rw [hx, Round.read_one] at h
  cases h
theorem not_nan_sub {x y : Nat} (h : Ieee.double.sub 4607182418800017408 x = some y) : ∀ s f, Ieee.double.read x ≠ .nan s f := by
  intro s f hx
  unfold Ieee.Format.sub at h
  rw [hx, Round.read_one] at h
  cases h
theorem keeps_split {u d r : Nat} (h : keepsB u d r = true) : ∃ x y, Ieee.double.sub 4607182418800017408 d = some x ∧ Ieee.double.add 4607182418800017408 u = some y ∧ leqF x r = true := by
  cases hs : Ieee.double.sub 4607182418800017408 d with
  | none => rw [keeps_sub_none hs] at h; cases h
  | some x =>
    cases ha : Ieee.double.add 4607182418800017408 u with
    | none => rw [keeps_add_none ha] at h; cases h
    | some y =>
      rw [keeps_some hs ha, Bool.and_eq_true] at h
      exact ⟨x, y, rfl, rfl, h.1⟩
theorem self_u {u d r : Nat} (h : keepsB u d r = true) : Ieee.double.order u u = some .eq := by
  obtain ⟨x, y, _, ha, _⟩ := keeps_split h
  exact Round.order_self u (not_nan_add ha)
theorem self_d {u d r : Nat} (h : keepsB u d r = true) : Ieee.double.order d d = some .eq := by
  obtain ⟨x, y, hs, _, _⟩ := keeps_split h
  exact Round.order_self d (not_nan_sub hs)
theorem ratio_known {u d r : Nat} (h : keepsB u d r = true) : Ieee.double.order r 4607182418800017408 ≠ none := by
  obtain ⟨x, y, _, _, hl⟩ := keeps_split h
  have hn : ∀ s f, Ieee.double.read r ≠ .nan s f := by
    intro s f hr
    have : leqF x r = false := by
      show (Ieee.double.order x r == some .lt || Ieee.double.order x r == some .eq) = false
      have : Ieee.double.order x r = none := by
        unfold Ieee.Format.order
        rw [hr]
        cases Ieee.double.read x <;> rfl
      rw [this]; rfl
    rw [this] at hl; cases hl
  unfold Ieee.Format.order
  rw [Round.read_one]
  rcases hr : Ieee.double.read r with ⟨s, m, i⟩ | s | ⟨s, f⟩
  · intro e; cases e
  · intro e; cases s <;> cases e
  · exact absurd hr (hn s f)

theorem div_zero (x : Nat) (h : Ieee.double.order x 0 = some .eq) : ∃ y, Ieee.double.div 4607182418800017408 x = some y ∧ Ieee.double.order y y = some .eq := by
  obtain ⟨s, i, hx, _⟩ := Round.zero_read x h
  unfold Ieee.Format.div
  rw [Round.read_one, hx]
  cases s
  · exact ⟨_, rfl, by decide⟩
  · exact ⟨_, rfl, by decide⟩

/-! ### sameFloat of a word with itself -/
set_option maxHeartbeats 400000 in
theorem same_self (x : Nat) (w : World) (hs : (FloatKind.f64.format.order x x == some .eq) = true) :
    Calls Trym.prog 11 #[.float .f64 x, .float .f64 x] w fun e w' => e = .returned (.bool true) ∧ w' = w := by
  have hs2 : (FloatKind.f64.format.order x x != some .eq) = false := by simpa using hs
  cases hz : (FloatKind.f64.format.order x 0 == some .eq)
  · go_enter Trym.func11, Trym.ntmps11
    go_wp2
    go_ret
    exact ⟨rfl, rfl⟩
  · have hz0 : FloatKind.f64.format.order x 0 = some .eq := by simpa using hz
    obtain ⟨y, hy, ho⟩ := div_zero x hz0
    clear hz0
    have hq : ∀ w, (binOp .quo 25 (.float .f64 4607182418800017408) (.float .f64 x)).run Trym.prog w = .ok (.float .f64 y) w := fun w => run_float_arith w .quo 25 .f64 _ x y hy
    have ho2 : (FloatKind.f64.format.order y y == some .eq) = true := by
      have : FloatKind.f64.format.order y y = some .eq := ho
      rw [this]; rfl
    clear hy ho
    go_enter Trym.func11, Trym.ntmps11
    go_wp2
    go_ret
    exact ⟨rfl, rfl⟩

/-! ### the walk: an ask that is not tolerated -/
theorem o00 : (FloatKind.f64.format.order 0 0 == some .eq) = true := by decide
theorem oinf : (FloatKind.f64.format.order 9218868437227405312 0 == some .gt) = true := by decide
theorem run_inv0 (w : World) : (binOp .quo 25 (.float .f64 4607182418800017408) (.float .f64 0)).run Trym.prog w = .ok (.float .f64 9218868437227405312) w :=
  run_float_arith w .quo 25 .f64 _ 0 _ (by decide)

set_option maxHeartbeats 400000 in
theorem not_tol (u d r : Nat) (c k : Int) (w : World) (ht : askT u d r c k = false) :
    Calls Trym.prog 5 #[.float .f64 u, .float .f64 d, .float .f64 r, .int .i32 c, .int .i32 k] w fun e w' => e = .returned (.bool true) ∧ Below w.heap.size w w' := by
  have h1 := o00
  have h2 := oinf
  have h3 := run_inv0
  have hW : askW u d r c k = 0 := by simp [askW, ht]
  cases hk : keepsB u d r
  · have a1 : askC u d r c k = c := by simp [askC, hk]
    have n1 : (c != c) = false := by simp
    clear hk
    go_enter Trym.func5, Trym.ntmps5
    go_wp2_with fail
    refine (zz_any _ _ _ _ _ _).mono ?_
    rintro e w1 ⟨rfl, hb1⟩
    go_wp2
    go_ret
    exact ⟨rfl, hb1⟩
  · have e0 : (c == k) = true := by
      have := ht
      simp only [askT, hk, Bool.true_and] at this
      simpa using this
    have e1 : k = c := (by simpa using e0 : c = k).symm
    subst e1
    have a1 : askC u d r k k = k := by simp [askC, hk]
    clear hk e0
    go_enter Trym.func5, Trym.ntmps5
    go_wp2_with fail
    refine (zz_any _ _ _ _ _ _).mono ?_
    rintro e w1 ⟨rfl, hb1⟩
    go_wp2
    go_ret
    exact ⟨rfl, hb1⟩

/-! ### the walk: a tolerated ask -/
set_option maxHeartbeats 400000 in
theorem tol_up (u d r : Nat) (c k : Int) (w : World) (ht : askT u d r c k = true) (hc : askC u d r c k = k) (hW : askW u d r c k = u) (hn : (c == k) = false) (hn2 : (k != c) = true)
    (hs : (FloatKind.f64.format.order u u == some .eq) = true)
    (hr : (FloatKind.f64.format.order r 4607182418800017408 == some .gt) = true) :
    Calls Trym.prog 5 #[.float .f64 u, .float .f64 d, .float .f64 r, .int .i32 c, .int .i32 k] w fun e w' => e = .returned (.bool true) ∧ Below w.heap.size w w' := by
  go_enter Trym.func5, Trym.ntmps5
  go_wp2_with fail
  refine (zz_any _ _ _ _ _ _).mono ?_
  rintro e w1 ⟨rfl, hb1⟩
  go_wp2_with fail
  refine (same_self _ _ hs).mono ?_
  rintro e w2 ⟨rfl, hw2⟩
  go_wp2
  go_ret
  exact ⟨rfl, hb1⟩

set_option maxHeartbeats 400000 in
theorem tol_down (u d r : Nat) (c k : Int) (w : World) (ht : askT u d r c k = true) (hc : askC u d r c k = k) (hW : askW u d r c k = d) (hn : (c == k) = false) (hn2 : (k != c) = true)
    (hs : (FloatKind.f64.format.order d d == some .eq) = true)
    (hr : (FloatKind.f64.format.order r 4607182418800017408 == some .gt) = false) (hr2 : (FloatKind.f64.format.order r 4607182418800017408 == some .lt) = true) :
    Calls Trym.prog 5 #[.float .f64 u, .float .f64 d, .float .f64 r, .int .i32 c, .int .i32 k] w fun e w' => e = .returned (.bool true) ∧ Below w.heap.size w w' := by
  go_enter Trym.func5, Trym.ntmps5
  go_wp2_with fail
  refine (zz_any _ _ _ _ _ _).mono ?_
  rintro e w1 ⟨rfl, hb1⟩
  go_wp2_with fail
  refine (same_self _ _ hs).mono ?_
  rintro e w2 ⟨rfl, hw2⟩
  go_wp2
  go_ret
  exact ⟨rfl, hb1⟩

set_option maxHeartbeats 400000 in
theorem one_up (u d r : Nat) (c k : Int) (w : World) (ht : askT u d r c k = true) (hc : askC u d r c k = k) (hW : askW u d r c k = u) (hn : (c == k) = false) (hn2 : (k != c) = true)
    (hs : (FloatKind.f64.format.order u u == some .eq) = true)
    (hr : (FloatKind.f64.format.order r 4607182418800017408 == some .gt) = false) (hr2 : (FloatKind.f64.format.order r 4607182418800017408 == some .lt) = false)
    (hr3 : (FloatKind.f64.format.order r 4607182418800017408 == some .eq) = true) (hlt : k < c) :
    Calls Trym.prog 5 #[.float .f64 u, .float .f64 d, .float .f64 r, .int .i32 c, .int .i32 k] w fun e w' => e = .returned (.bool true) ∧ Below w.heap.size w w' := by
  go_enter Trym.func5, Trym.ntmps5
  go_wp2_with fail
  refine (zz_any _ _ _ _ _ _).mono ?_
  rintro e w1 ⟨rfl, hb1⟩
  go_wp2_with fail
  refine (same_self _ _ hs).mono ?_
  rintro e w2 ⟨rfl, hw2⟩
  go_wp2
  go_ret
  exact ⟨rfl, hb1⟩

set_option maxHeartbeats 400000 in
theorem one_down (u d r : Nat) (c k : Int) (w : World) (ht : askT u d r c k = true) (hc : askC u d r c k = k) (hW : askW u d r c k = d) (hn : (c == k) = false) (hn2 : (k != c) = true)
    (hs : (FloatKind.f64.format.order d d == some .eq) = true)
    (hr : (FloatKind.f64.format.order r 4607182418800017408 == some .gt) = false) (hr2 : (FloatKind.f64.format.order r 4607182418800017408 == some .lt) = false)
    (hr3 : (FloatKind.f64.format.order r 4607182418800017408 == some .eq) = true) (hlt : ¬ k < c) :
    Calls Trym.prog 5 #[.float .f64 u, .float .f64 d, .float .f64 r, .int .i32 c, .int .i32 k] w fun e w' => e = .returned (.bool true) ∧ Below w.heap.size w w' := by
  go_enter Trym.func5, Trym.ntmps5
  go_wp2_with fail
  refine (zz_any _ _ _ _ _ _).mono ?_
  rintro e w1 ⟨rfl, hb1⟩
  go_wp2_with fail
  refine (same_self _ _ hs).mono ?_
  rintro e w2 ⟨rfl, hw2⟩
  go_wp2
  go_ret
  exact ⟨rfl, hb1⟩

theorem beq_of {o : Option Ordering} {x : Ordering} (h : o = some x) (y : Ordering) : (o == some y) = (x == y) := by rw [h]; rfl

theorem walk0 (u d r : Nat) (c k : Int) (w : World) :
    Calls Trym.prog 5 #[.float .f64 u, .float .f64 d, .float .f64 r, .int .i32 c, .int .i32 k] w fun e w' => e = .returned (.bool true) ∧ Below w.heap.size w w' := by
  cases ht : askT u d r c k
  · exact not_tol u d r c k w ht
  · have hb := ht
    simp only [askT, Bool.and_eq_true] at hb
    obtain ⟨hk, hn0⟩ := hb
    have hn : (c == k) = false := by simpa using hn0
    have hn2 : (k != c) = true := by
      have : ¬ c = k := by simpa using hn
      simp; omega
    have hc : askC u d r c k = k := by simp [askC, hk]
    have su : (FloatKind.f64.format.order u u == some .eq) = true := by
      have : FloatKind.f64.format.order u u = some .eq := self_u hk
      rw [this]; rfl
    have sd : (FloatKind.f64.format.order d d == some .eq) = true := by
      have : FloatKind.f64.format.order d d = some .eq := self_d hk
      rw [this]; rfl
    have hne : FloatKind.f64.format.order r 4607182418800017408 ≠ none := ratio_known hk
    rcases ho : FloatKind.f64.format.order r 4607182418800017408 with _ | o
    · exact absurd ho hne
    · cases o
      · exact tol_down u d r c k w ht hc (by simp [askW, ht, upB, ho]) hn hn2 sd (beq_of ho _) (beq_of ho _)
      · by_cases hlt : k < c
        · exact one_up u d r c k w ht hc (by simp [askW, ht, upB, ho, hlt]) hn hn2 su (beq_of ho _) (beq_of ho _) (beq_of ho _) hlt
        · exact one_down u d r c k w ht hc (by simp [askW, ht, upB, ho, hlt]) hn hn2 sd (beq_of ho _) (beq_of ho _) (beq_of ho _) hlt
      · exact tol_up u d r c k w ht hc (by simp [askW, ht, upB, ho]) hn hn2 su (beq_of ho _)

theorem walk (a0 a1 a2 : Nat) (a3 a4 : Int) (w0 : (Lit.float .f64 a0).wf = true) (w1 : (Lit.float .f64 a1).wf = true) (w2 : (Lit.float .f64 a2).wf = true) (w3 : (Lit.int .i32 a3).wf = true) (w4 : (Lit.int .i32 a4).wf = true) (w : World) :
    Calls Trym.prog 5 #[.float .f64 a0, .float .f64 a1, .float .f64 a2, .int .i32 a3, .int .i32 a4] w fun e w' => e = .returned (.bool true) ∧ Below w.heap.size w w' :=
  walk0 a0 a1 a2 a3 a4 w

/-! ### the row's step -/
set_option maxRecDepth 100000 in
theorem lifted (os : Os) (started : os.Started) (H : Type) (enc : TypeId × Value → H) :
    ReturnsInHanded {} Trym.checked os 5 .any (Rows.fnApplyAskShapeSpec.pre6 enc Trym.prog Trym.f5 Rows.fnApplyAskShapeRow.domain false) (Rows.fnApplyAskShapeSpec.post enc Trym.prog Trym.f5 false true false false) := by
  refine returnsInHanded_of_change (C := Trym.checked) own started (by kernel_rfl) Trym.func5
    (ChangeSpec.witness6 (enc := enc) (C := Trym.checked) false ⟨#[], #[.float .f64 0, .float .f64 0, .float .f64 0, .int .i32 0, .int .i32 0], []⟩ 8 (by kernel_rfl) (by kernel_rfl) (by kernel_rfl) (by kernel_rfl)) ?_
  intro W base args ds gs before hval0 hW hcnd _
  have hval : ∀ (j : Nat) t v, Trym.f5.params[j]? = some t → args[j]? = some v → Value.okWide Trym.prog W .any base t v := hval0
  have hW' := hW
  obtain ⟨p, q, hA0, hV, rfl, hfz, hnd⟩ := hW
  have hA : DataW.TrodAll enc Trym.prog W 0 (fun _ => true) true Trym.f5.params.toList args.toList ds p := hA0
  rw [Trym.params5] at hA hval
  obtain ⟨v0, vs0, d0, ds0, p0, q0, hargs, rfl, rfl, h0, r0⟩ := trodAll_cons hA
  obtain ⟨v1, vs1, d1, ds1, p1, q1, rfl, rfl, rfl, h1, r1⟩ := trodAll_cons r0
  obtain ⟨v2, vs2, d2, ds2, p2, q2, rfl, rfl, rfl, h2, r2⟩ := trodAll_cons r1
  obtain ⟨v3, vs3, d3, ds3, p3, q3, rfl, rfl, rfl, h3, r3⟩ := trodAll_cons r2
  obtain ⟨v4, vs4, d4, ds4, p4, q4, rfl, rfl, rfl, h4, r4⟩ := trodAll_cons r3
  obtain ⟨rfl, rfl, rfl⟩ := trodAll_nil r4
  obtain rfl : args = #[v0, v1, v2, v3, v4] := by cases args; simp_all
  obtain ⟨rfl, rfl⟩ := trodVars_none hV
  obtain ⟨a0, rfl, rfl, rfl, w0⟩ := open_float Trym.underlying25 (hval 0 25 v0 rfl rfl) h0
  obtain ⟨a1, rfl, rfl, rfl, w1⟩ := open_float Trym.underlying25 (hval 1 25 v1 rfl rfl) h1
  obtain ⟨a2, rfl, rfl, rfl, w2⟩ := open_float Trym.underlying25 (hval 2 25 v2 rfl rfl) h2
  obtain ⟨a3, rfl, rfl, rfl, w3⟩ := open_int Trym.underlying21 (hval 3 21 v3 rfl rfl) h3
  obtain ⟨a4, rfl, rfl, rfl, w4⟩ := open_int Trym.underlying21 (hval 4 21 v4 rfl rfl) h4
  clear hA0 hval0
  refine (walk a0 a1 a2 a3 a4 w0 w1 w2 w3 w4 W).mono fun e W' ⟨he, bel⟩ => ?_
  subst he
  exact ⟨_, rfl, _, _, _, [], _, [], hW', trodAll_mk1 (shut_bool Trym.underlying4 _), (trodAll_cons_mk (shut_float Trym.underlying25 w0) (trodAll_cons_mk (shut_float Trym.underlying25 w1) (trodAll_cons_mk (shut_float Trym.underlying25 w2) (trodAll_cons_mk (shut_int Trym.underlying21 w3) (trodAll_cons_mk (shut_int Trym.underlying21 w4) trodAll_mk0))))), rfl, bel.frame _, fun h => by cases h⟩

theorem over : Rows.fnApplyAskShapeRow.holds Trym.pinned (OpenSpec.ofChange Rows.fnApplyAskShapeSpec) :=
  OpenClaim.holds_of_wide 5 Trym.f5 rfl rfl rfl rfl rfl rfl rfl ⟨rfl, rfl, rfl, rfl, rfl⟩ rfl rfl rfl rfl rfl (by kernel_rfl) Trym.func5 (by kernel_rfl)
    (of_decide_eq_true (by kernel_rfl)) (by unfold Func.isWrapper; first | (rw [if_pos (by decide +kernel)]; kernel_rfl) | (rw [if_neg (by decide +kernel)]; exact ⟨rfl, rfl⟩))
    (fun os started H enc _ => lifted os started H enc)

/-- The statement. -/
theorem proved : Rows.FnApplyAskShapeSaid := over
#print axioms proved
end Go.Proofs.Qxb6601468aMods.fnApplyAskShape
