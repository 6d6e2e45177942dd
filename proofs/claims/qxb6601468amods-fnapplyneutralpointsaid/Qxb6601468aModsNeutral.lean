/- The proof of Rows.FnApplyNeutralPointSaid: the guide's frame for this function, the walk filled in. -/
import Derived.Test.Qxb6601468aModsRows
import Derived.WalkKit
import Derived.ProofKit
import Derived.OpenShut
import Derived.ShutString
import Derived.Below
import Derived.Laws.Cover2
import Derived.Test.Qxb6601468aModsApply
import Derived.Test.Qxb6601468aModsRound
namespace Go.Proofs.Qxb6601468aMods.fnApplyNeutralPoint
open Go.ChangeShapes Go.WideShapes Go.ChangeAt Go.RowKit
open Go.ChangeMaps (open_string shut_string)
set_option linter.unusedVariables false

theorem own : ownKnob Trym.prog.godebug = none := by kernel_rfl

/-! ### the plain law: no Go in sight -/
theorem keeps_one (u d : Nat) (hu : FloatKind.f64.format.order u 0 = some .gt ∨ FloatKind.f64.format.order u 0 = some .eq) (hd : FloatKind.f64.format.order d 0 = some .gt ∨ FloatKind.f64.format.order d 0 = some .eq) : keepsB u d 4607182418800017408 = true := by
  obtain ⟨x, hx, ox⟩ := Round.sub_le d hd
  obtain ⟨y, hy, oy⟩ := Round.add_ge u hu
  rw [keeps_some hx hy]
  have o1 : leqF x 4607182418800017408 = true := by
    show (Ieee.double.order x 4607182418800017408 == some .lt || Ieee.double.order x 4607182418800017408 == some .eq) = true
    rcases ox with h | h <;> rw [h] <;> rfl
  have o2 : leqF 4607182418800017408 y = true := by
    show (Ieee.double.order 4607182418800017408 y == some .lt || Ieee.double.order 4607182418800017408 y == some .eq) = true
    rcases oy with h | h <;> rw [h] <;> rfl
  rw [o1, o2]; rfl
theorem keeps_zero (u d r : Nat) (hu : FloatKind.f64.format.order u 0 = some .eq) (hd : FloatKind.f64.format.order d 0 = some .eq) (hr : FloatKind.f64.format.order r 4607182418800017408 ≠ some .eq) : keepsB u d r = false := by
  rw [keeps_some (Round.sub_zero d hd) (Round.add_zero u hu)]
  cases h1 : leqF 4607182418800017408 r
  · rfl
  · cases h2 : leqF r 4607182418800017408
    · rfl
    · exfalso
      apply hr
      refine Round.between r ?_ ?_
      · simpa [leqF, FloatKind.format] using h1
      · simpa [leqF, FloatKind.format] using h2

theorem gt_of_eq {o : Option Ordering} (h : (o == some .eq) = true) : (o == some .gt) = false := by
  have : o = some .eq := by simpa using h
  rw [this]; rfl

theorem below2 {w w1 w2 : World} (h1 : Below w.heap.size w w1) (h2 : Below w1.heap.size w1 w2) : Below w.heap.size w w2 := h1.trans (h2.mono h1.size)

/-! ### the walk -/
set_option maxHeartbeats 400000 in
theorem out_u (u d r : Nat) (c k : Int) (w : World) (hu : (FloatKind.f64.format.order u 0 == some .gt || FloatKind.f64.format.order u 0 == some .eq) = false) :
    Calls Trym.prog 8 #[.float .f64 u, .float .f64 d, .float .f64 r, .int .i32 c, .int .i32 k] w fun e w' => e = .returned (.bool true) ∧ Below w.heap.size w w' := by
  go_enter Trym.func8, Trym.ntmps8
  go_wp2
  go_ret
  exact ⟨rfl, Below.refl _ _⟩

set_option maxHeartbeats 400000 in
theorem out_d (u d r : Nat) (c k : Int) (w : World) (hu : (FloatKind.f64.format.order u 0 == some .gt || FloatKind.f64.format.order u 0 == some .eq) = true) (hd : (FloatKind.f64.format.order d 0 == some .gt || FloatKind.f64.format.order d 0 == some .eq) = false) :
    Calls Trym.prog 8 #[.float .f64 u, .float .f64 d, .float .f64 r, .int .i32 c, .int .i32 k] w fun e w' => e = .returned (.bool true) ∧ Below w.heap.size w w' := by
  go_enter Trym.func8, Trym.ntmps8
  go_wp2
  go_ret
  exact ⟨rfl, Below.refl _ _⟩

set_option maxHeartbeats 400000 in
theorem in_both (u d r : Nat) (c k : Int) (w : World) (hu : (FloatKind.f64.format.order u 0 == some .gt || FloatKind.f64.format.order u 0 == some .eq) = true) (hd : (FloatKind.f64.format.order d 0 == some .gt || FloatKind.f64.format.order d 0 == some .eq) = true) :
    Calls Trym.prog 8 #[.float .f64 u, .float .f64 d, .float .f64 r, .int .i32 c, .int .i32 k] w fun e w' => e = .returned (.bool true) ∧ Below w.heap.size w w' := by
  have hk := keeps_one u d (by simpa using hu) (by simpa using hd)
  have a1 : askC u d 4607182418800017408 c k = k := by simp [askC, hk]
  clear hk
  cases z1 : (FloatKind.f64.format.order u 0 == some .eq)
  · have g1 : (FloatKind.f64.format.order u 0 == some .gt) = true := by rw [z1, Bool.or_false] at hu; exact hu
    clear hu
    go_enter Trym.func8, Trym.ntmps8
    go_wp2_with fail
    refine (zz_any _ _ _ _ _ _).mono ?_
    rintro e w1 ⟨rfl, hb1⟩
    go_wp2
    go_ret
    exact ⟨rfl, hb1⟩
  · have g1 : (FloatKind.f64.format.order u 0 == some .gt) = false := gt_of_eq z1
    clear hu
    cases z2 : (FloatKind.f64.format.order d 0 == some .eq)
    · have g2 : (FloatKind.f64.format.order d 0 == some .gt) = true := by rw [z2, Bool.or_false] at hd; exact hd
      clear hd
      go_enter Trym.func8, Trym.ntmps8
      go_wp2_with fail
      refine (zz_any _ _ _ _ _ _).mono ?_
      rintro e w1 ⟨rfl, hb1⟩
      go_wp2
      go_ret
      exact ⟨rfl, hb1⟩
    · have g2 : (FloatKind.f64.format.order d 0 == some .gt) = false := gt_of_eq z2
      clear hd
      cases z3 : (FloatKind.f64.format.order r 4607182418800017408 == some .eq)
      · have hk := keeps_zero u d r (by simpa using z1) (by simpa using z2) (by simpa using z3)
        have a2 : askC u d r c k = c := by simp [askC, hk]
        have t2 : askT u d r c k = false := by simp [askT, hk]
        have z4 : (FloatKind.f64.format.order r 4607182418800017408 != some .eq) = true := by simpa using z3
        clear hk z3
        go_enter Trym.func8, Trym.ntmps8
        go_wp2_with fail
        refine (zz_any _ _ _ _ _ _).mono ?_
        rintro e w1 ⟨rfl, hb1⟩
        go_wp2_with fail
        refine (zz_any _ _ _ _ _ _).mono ?_
        rintro e w2 ⟨rfl, hb2⟩
        go_wp2
        go_ret
        exact ⟨rfl, below2 hb1 hb2⟩
      · have z4 : (FloatKind.f64.format.order r 4607182418800017408 != some .eq) = false := by simpa using z3
        clear z3
        go_enter Trym.func8, Trym.ntmps8
        go_wp2_with fail
        refine (zz_any _ _ _ _ _ _).mono ?_
        rintro e w1 ⟨rfl, hb1⟩
        go_wp2
        go_ret
        exact ⟨rfl, hb1⟩

theorem walk (a0 a1 a2 : Nat) (a3 a4 : Int) (w0 : (Lit.float .f64 a0).wf = true) (w1 : (Lit.float .f64 a1).wf = true) (w2 : (Lit.float .f64 a2).wf = true) (w3 : (Lit.int .i32 a3).wf = true) (w4 : (Lit.int .i32 a4).wf = true) (w : World) :
    Calls Trym.prog 8 #[.float .f64 a0, .float .f64 a1, .float .f64 a2, .int .i32 a3, .int .i32 a4] w fun e w' => e = .returned (.bool true) ∧ Below w.heap.size w w' := by
  cases hu : (FloatKind.f64.format.order a0 0 == some .gt || FloatKind.f64.format.order a0 0 == some .eq)
  · exact out_u a0 a1 a2 a3 a4 w hu
  · cases hd : (FloatKind.f64.format.order a1 0 == some .gt || FloatKind.f64.format.order a1 0 == some .eq)
    · exact out_d a0 a1 a2 a3 a4 w hu hd
    · exact in_both a0 a1 a2 a3 a4 w hu hd

/-! ### the row's step -/
set_option maxRecDepth 100000 in
theorem lifted (os : Os) (started : os.Started) (H : Type) (enc : TypeId × Value → H) :
    ReturnsInHanded {} Trym.checked os 8 .any (Rows.fnApplyNeutralPointSpec.pre6 enc Trym.prog Trym.f8 Rows.fnApplyNeutralPointRow.domain false) (Rows.fnApplyNeutralPointSpec.post enc Trym.prog Trym.f8 false true false false) := by
  refine returnsInHanded_of_change (C := Trym.checked) own started (by kernel_rfl) Trym.func8
    (ChangeSpec.witness6 (enc := enc) (C := Trym.checked) false ⟨#[], #[.float .f64 0, .float .f64 0, .float .f64 0, .int .i32 0, .int .i32 0], []⟩ 8 (by kernel_rfl) (by kernel_rfl) (by kernel_rfl) (by kernel_rfl)) ?_
  intro W base args ds gs before hval0 hW hcnd _
  have hval : ∀ (j : Nat) t v, Trym.f8.params[j]? = some t → args[j]? = some v → Value.okWide Trym.prog W .any base t v := hval0
  have hW' := hW
  obtain ⟨p, q, hA0, hV, rfl, hfz, hnd⟩ := hW
  have hA : DataW.TrodAll enc Trym.prog W 0 (fun _ => true) true Trym.f8.params.toList args.toList ds p := hA0
  rw [Trym.params8] at hA hval
  obtain ⟨v0, vs0, d0, ds0, p0, q0, hargs, rfl, rfl, h0, r0⟩ := trodAll_cons hA
  obtain ⟨v1, vs1, d1, ds1, p1, q1, rfl, rfl, rfl, h1, r1⟩ := trodAll_cons r0
  obtain ⟨v2, vs2, d2, ds2, p2, q2, rfl, rfl, rfl, h2, r2⟩ := trodAll_cons r1
  obtain ⟨v3, vs3, d3, ds3, p3, q3, rfl, rfl, rfl, h3, r3⟩ := trodAll_cons r2
  obtain ⟨v4, vs4, d4, ds4, p4, q4, rfl, rfl, rfl, h4, r4⟩ := trodAll_cons r3
  obtain ⟨rfl, rfl, rfl⟩ := trodAll_nil r4
  obtain rfl : args = #[v0, v1, v2, v3, v4] := by cases args; simp_all
  obtain ⟨rfl, rfl⟩ := trodVars_none hV
  obtain ⟨a0, rfl, rfl, rfl, w0⟩ := open_float Trym.underlying25 (hval 0 25 v0 rfl rfl) h0
  obtain ⟨a1, rfl, rfl, rfl, w1⟩ := open_float Trym.underlying25 (hval 1 25 v1 rfl rfl) h1
  obtain ⟨a2, rfl, rfl, rfl, w2⟩ := open_float Trym.underlying25 (hval 2 25 v2 rfl rfl) h2
  obtain ⟨a3, rfl, rfl, rfl, w3⟩ := open_int Trym.underlying21 (hval 3 21 v3 rfl rfl) h3
  obtain ⟨a4, rfl, rfl, rfl, w4⟩ := open_int Trym.underlying21 (hval 4 21 v4 rfl rfl) h4
  clear hA0 hval0
  refine (walk a0 a1 a2 a3 a4 w0 w1 w2 w3 w4 W).mono fun e W' ⟨he, bel⟩ => ?_
  subst he
  exact ⟨_, rfl, _, _, _, [], _, [], hW', trodAll_mk1 (shut_bool Trym.underlying4 _), (trodAll_cons_mk (shut_float Trym.underlying25 w0) (trodAll_cons_mk (shut_float Trym.underlying25 w1) (trodAll_cons_mk (shut_float Trym.underlying25 w2) (trodAll_cons_mk (shut_int Trym.underlying21 w3) (trodAll_cons_mk (shut_int Trym.underlying21 w4) trodAll_mk0))))), rfl, bel.frame _, fun h => by cases h⟩

theorem over : Rows.fnApplyNeutralPointRow.holds Trym.pinned (OpenSpec.ofChange Rows.fnApplyNeutralPointSpec) :=
  OpenClaim.holds_of_wide 8 Trym.f8 rfl rfl rfl rfl rfl rfl rfl ⟨rfl, rfl, rfl, rfl, rfl⟩ rfl rfl rfl rfl rfl (by kernel_rfl) Trym.func8 (by kernel_rfl)
    (of_decide_eq_true (by kernel_rfl)) (by unfold Func.isWrapper; first | (rw [if_pos (by decide +kernel)]; kernel_rfl) | (rw [if_neg (by decide +kernel)]; exact ⟨rfl, rfl⟩))
    (fun os started H enc _ => lifted os started H enc)

/-- The statement. -/
theorem proved : Rows.FnApplyNeutralPointSaid := over
#print axioms proved
end Go.Proofs.Qxb6601468aMods.fnApplyNeutralPoint
