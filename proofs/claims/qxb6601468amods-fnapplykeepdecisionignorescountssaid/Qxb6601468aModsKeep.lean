/- The proof of Rows.FnApplyKeepDecisionIgnoresCountsSaid: the guide's frame for this function, the walk filled in. -/
import Derived.Test.Qxb6601468aModsRows
import Derived.WalkKit
import Derived.ProofKit
import Derived.OpenShut
import Derived.ShutString
import Derived.Below
import Derived.Laws.Cover2
import Derived.Test.Qxb6601468aModsApply
namespace Go.Proofs.Qxb6601468aMods.fnApplyKeepDecisionIgnoresCounts
open Go.ChangeShapes Go.WideShapes Go.ChangeAt Go.RowKit
open Go.ChangeMaps (open_string shut_string)
set_option linter.unusedVariables false

theorem own : ownKnob Trym.prog.godebug = none := by kernel_rfl

theorem below2 {w w1 w2 : World} (h1 : Below w.heap.size w w1) (h2 : Below w1.heap.size w1 w2) : Below w.heap.size w w2 := h1.trans (h2.mono h1.size)
set_option maxHeartbeats 400000 in
theorem walk0 (u d r : Nat) (c c2 k : Int) (w : World) :
    Calls Trym.prog 6 #[.float .f64 u, .float .f64 d, .float .f64 r, .int .i32 c, .int .i32 c2, .int .i32 k] w fun e w' =>
      e = .returned (.bool true) ∧ Below w.heap.size w w' := by
  cases e1 : (c == k)
  · cases e2 : (c2 == k)
    · cases hk : keepsB u d r
      · have a1 : askC u d r c k = c := by simp [askC, hk]
        have a2 : askC u d r c2 k = c2 := by simp [askC, hk]
        have t1 : askT u d r c k = false := by simp [askT, hk]
        have t2 : askT u d r c2 k = false := by simp [askT, hk]
        clear hk
        go_enter Trym.func6, Trym.ntmps6
        go_wp2_with fail
        refine (zz_any _ _ _ _ _ _).mono ?_
        rintro e w1 ⟨rfl, hb1⟩
        go_wp2_with fail
        refine (zz_any _ _ _ _ _ _).mono ?_
        rintro e w2 ⟨rfl, hb2⟩
        go_wp2
        go_ret
        exact ⟨rfl, below2 hb1 hb2⟩
      · have a1 : (askC u d r c k == k) = true := by simp [askC, hk]
        have a2 : (askC u d r c2 k == k) = true := by simp [askC, hk]
        have t1 : askT u d r c k = true := by simp [askT, hk, e1]
        have t2 : askT u d r c2 k = true := by simp [askT, hk, e2]
        clear hk
        go_enter Trym.func6, Trym.ntmps6
        go_wp2_with fail
        refine (zz_any _ _ _ _ _ _).mono ?_
        rintro e w1 ⟨rfl, hb1⟩
        go_wp2_with fail
        refine (zz_any _ _ _ _ _ _).mono ?_
        rintro e w2 ⟨rfl, hb2⟩
        go_wp2
        go_ret
        exact ⟨rfl, below2 hb1 hb2⟩
    · go_enter Trym.func6, Trym.ntmps6
      go_wp2
      go_ret
      exact ⟨rfl, Below.refl _ _⟩
  · go_enter Trym.func6, Trym.ntmps6
    go_wp2
    go_ret
    exact ⟨rfl, Below.refl _ _⟩

theorem walk (a0 a1 a2 : Nat) (a3 a4 a5 : Int) (w0 : (Lit.float .f64 a0).wf = true) (w1 : (Lit.float .f64 a1).wf = true) (w2 : (Lit.float .f64 a2).wf = true) (w3 : (Lit.int .i32 a3).wf = true) (w4 : (Lit.int .i32 a4).wf = true) (w5 : (Lit.int .i32 a5).wf = true) (w : World) :
    Calls Trym.prog 6 #[.float .f64 a0, .float .f64 a1, .float .f64 a2, .int .i32 a3, .int .i32 a4, .int .i32 a5] w fun e w' => e = .returned (.bool true) ∧ Below w.heap.size w w' :=
  walk0 a0 a1 a2 a3 a4 a5 w

/-! ### the row's step -/
set_option maxRecDepth 100000 in
theorem lifted (os : Os) (started : os.Started) (H : Type) (enc : TypeId × Value → H) :
    ReturnsInHanded {} Trym.checked os 6 .any (Rows.fnApplyKeepDecisionIgnoresCountsSpec.pre6 enc Trym.prog Trym.f6 Rows.fnApplyKeepDecisionIgnoresCountsRow.domain false) (Rows.fnApplyKeepDecisionIgnoresCountsSpec.post enc Trym.prog Trym.f6 false true false false) := by
  refine returnsInHanded_of_change (C := Trym.checked) own started (by kernel_rfl) Trym.func6
    (ChangeSpec.witness6 (enc := enc) (C := Trym.checked) false ⟨#[], #[.float .f64 0, .float .f64 0, .float .f64 0, .int .i32 0, .int .i32 0, .int .i32 0], []⟩ 8 (by kernel_rfl) (by kernel_rfl) (by kernel_rfl) (by kernel_rfl)) ?_
  intro W base args ds gs before hval0 hW hcnd _
  have hval : ∀ (j : Nat) t v, Trym.f6.params[j]? = some t → args[j]? = some v → Value.okWide Trym.prog W .any base t v := hval0
  have hW' := hW
  obtain ⟨p, q, hA0, hV, rfl, hfz, hnd⟩ := hW
  have hA : DataW.TrodAll enc Trym.prog W 0 (fun _ => true) true Trym.f6.params.toList args.toList ds p := hA0
  rw [Trym.params6] at hA hval
  obtain ⟨v0, vs0, d0, ds0, p0, q0, hargs, rfl, rfl, h0, r0⟩ := trodAll_cons hA
  obtain ⟨v1, vs1, d1, ds1, p1, q1, rfl, rfl, rfl, h1, r1⟩ := trodAll_cons r0
  obtain ⟨v2, vs2, d2, ds2, p2, q2, rfl, rfl, rfl, h2, r2⟩ := trodAll_cons r1
  obtain ⟨v3, vs3, d3, ds3, p3, q3, rfl, rfl, rfl, h3, r3⟩ := trodAll_cons r2
  obtain ⟨v4, vs4, d4, ds4, p4, q4, rfl, rfl, rfl, h4, r4⟩ := trodAll_cons r3
  obtain ⟨v5, vs5, d5, ds5, p5, q5, rfl, rfl, rfl, h5, r5⟩ := trodAll_cons r4
  obtain ⟨rfl, rfl, rfl⟩ := trodAll_nil r5
  obtain rfl : args = #[v0, v1, v2, v3, v4, v5] := by cases args; simp_all
  obtain ⟨rfl, rfl⟩ := trodVars_none hV
  obtain ⟨a0, rfl, rfl, rfl, w0⟩ := open_float Trym.underlying25 (hval 0 25 v0 rfl rfl) h0
  obtain ⟨a1, rfl, rfl, rfl, w1⟩ := open_float Trym.underlying25 (hval 1 25 v1 rfl rfl) h1
  obtain ⟨a2, rfl, rfl, rfl, w2⟩ := open_float Trym.underlying25 (hval 2 25 v2 rfl rfl) h2
  obtain ⟨a3, rfl, rfl, rfl, w3⟩ := open_int Trym.underlying21 (hval 3 21 v3 rfl rfl) h3
  obtain ⟨a4, rfl, rfl, rfl, w4⟩ := open_int Trym.underlying21 (hval 4 21 v4 rfl rfl) h4
  obtain ⟨a5, rfl, rfl, rfl, w5⟩ := open_int Trym.underlying21 (hval 5 21 v5 rfl rfl) h5
  clear hA0 hval0
  refine (walk a0 a1 a2 a3 a4 a5 w0 w1 w2 w3 w4 w5 W).mono fun e W' ⟨he, bel⟩ => ?_
  subst he
  exact ⟨_, rfl, _, _, _, [], _, [], hW', trodAll_mk1 (shut_bool Trym.underlying4 _), (trodAll_cons_mk (shut_float Trym.underlying25 w0) (trodAll_cons_mk (shut_float Trym.underlying25 w1) (trodAll_cons_mk (shut_float Trym.underlying25 w2) (trodAll_cons_mk (shut_int Trym.underlying21 w3) (trodAll_cons_mk (shut_int Trym.underlying21 w4) (trodAll_cons_mk (shut_int Trym.underlying21 w5) trodAll_mk0)))))), rfl, bel.frame _, fun h => by cases h⟩

theorem over : Rows.fnApplyKeepDecisionIgnoresCountsRow.holds Trym.pinned (OpenSpec.ofChange Rows.fnApplyKeepDecisionIgnoresCountsSpec) :=
  OpenClaim.holds_of_wide 6 Trym.f6 rfl rfl rfl rfl rfl rfl rfl ⟨rfl, rfl, rfl, rfl, rfl⟩ rfl rfl rfl rfl rfl (by kernel_rfl) Trym.func6 (by kernel_rfl)
    (of_decide_eq_true (by kernel_rfl)) (by unfold Func.isWrapper; first | (rw [if_pos (by decide +kernel)]; kernel_rfl) | (rw [if_neg (by decide +kernel)]; exact ⟨rfl, rfl⟩))
    (fun os started H enc _ => lifted os started H enc)

/-- The statement. -/
theorem proved : Rows.FnApplyKeepDecisionIgnoresCountsSaid := over
#print axioms proved
end Go.Proofs.Qxb6601468aMods.fnApplyKeepDecisionIgnoresCounts
