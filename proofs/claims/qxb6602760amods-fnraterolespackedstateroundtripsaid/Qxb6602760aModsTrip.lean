/- The proof of Rows.FnRateRolesPackedStateRoundTripSaid: the tool's frame for this function, the walk filled in. -/
import Derived.Test.Qxb6602760aModsRows
import Derived.WalkKit
import Derived.ProofKit
import Derived.OpenShut
import Derived.ShutString
import Derived.Test.Qxb6602760aModsBehind
namespace Go.Proofs.Qxb6602760aMods.fnRateRolesPackedStateRoundTrip
open Go.ChangeShapes Go.WideShapes Go.ChangeAt Go.RowKit
open Go.ChangeMaps (open_string shut_string)
set_option linter.unusedVariables false      -- a walk need not use every 'w<i>' (that an integer argument fits its kind)

theorem own : ownKnob Trym.prog.godebug = none := by kernel_rfl

/-! ### the plain law: no Go in sight -/
def word (e r : Int) : Int := bits BinOp.or IntKind.u64 (IntKind.u64.wrap (IntKind.u64.wrap e * 8)) r
theorem trip0 (e r : Int) (h0 : 0 ≤ r) (h1 : r ≤ 7) : beh (word e r) e = 0 := by
  unfold word; rw [pack e r h0 h1, beh_eq]; omega
theorem tripk (e r k : Int) (h0 : 0 ≤ r) (h1 : r ≤ 7) (h2 : -1152921504606846976 ≤ k) (h3 : k < 1152921504606846976) : beh (word e r) (wrap64 (e + k)) = k := by
  unfold word; rw [pack e r h0 h1, beh_eq]; simp only [wrap64]; omega
theorem roles_bd (c : Int) (p : Bool) (h0 : 0 ≤ c) (h1 : c ≤ 3) : 0 ≤ rolesOf c p ∧ rolesOf c p ≤ 7 := by
  unfold rolesOf; cases p <;> simp <;> omega

/-! ### the walk -/
set_option maxHeartbeats 400000 in
theorem out_c (a0 a1 : Int) (a2 : Bool) (a3 : Int) (w : World) (h : a1 < 0 ∨ 3 < a1) :
    Calls Trym.prog 5 #[.int .i64 a0, .int .i64 a1, .bool a2, .int .i64 a3] w fun e w' => e = .returned (.bool true) ∧ w' = w := by
  by_cases c : a1 < 0
  · go_enter Trym.func5, Trym.ntmps5
    go_wp2
    go_ret
    exact ⟨rfl, rfl⟩
  · have c2 : 3 < a1 := by omega
    go_enter Trym.func5, Trym.ntmps5
    go_wp2
    go_ret
    exact ⟨rfl, rfl⟩

set_option maxHeartbeats 400000 in
theorem out_k (a0 a1 : Int) (a2 : Bool) (a3 : Int) (w : World) (h0 : 0 ≤ a1) (h1 : a1 ≤ 3) (h : a3 < -1152921504606846976 ∨ 1152921504606846976 ≤ a3) :
    Calls Trym.prog 5 #[.int .i64 a0, .int .i64 a1, .bool a2, .int .i64 a3] w fun e w' => e = .returned (.bool true) ∧ w' = w := by
  by_cases c : a3 < -1152921504606846976
  · go_enter Trym.func5, Trym.ntmps5
    go_wp2
    go_ret
    exact ⟨rfl, rfl⟩
  · have c2 : 1152921504606846976 ≤ a3 := by omega
    go_enter Trym.func5, Trym.ntmps5
    go_wp2
    go_ret
    exact ⟨rfl, rfl⟩

set_option maxHeartbeats 400000 in
theorem inside (a0 a1 : Int) (a2 : Bool) (a3 : Int) (w : World) (h0 : 0 ≤ a1) (h1 : a1 ≤ 3) (h2 : -1152921504606846976 ≤ a3) (h3 : a3 < 1152921504606846976) :
    Calls Trym.prog 5 #[.int .i64 a0, .int .i64 a1, .bool a2, .int .i64 a3] w fun e w' => e = .returned (.bool true) ∧ w' = w := by
  have hr := roles_bd a1 a2 h0 h1
  obtain ⟨hr0, hr1⟩ := hr
  have e1 : (beh (bits BinOp.or IntKind.u64 (IntKind.u64.wrap (IntKind.u64.wrap a0 * 8)) (rolesOf a1 a2)) a0 == 0) = true := by
    rw [beq_iff_eq]; exact trip0 a0 (rolesOf a1 a2) hr0 hr1
  have e2 : (beh (bits BinOp.or IntKind.u64 (IntKind.u64.wrap (IntKind.u64.wrap a0 * 8)) (rolesOf a1 a2)) (wrap64 (a0 + a3)) == a3) = true := by
    rw [beq_iff_eq]; exact tripk a0 (rolesOf a1 a2) a3 hr0 hr1 h2 h3
  go_enter Trym.func5, Trym.ntmps5
  go_wp2_with (first | (go_at_call 8; refine (roles_any _ _ _ h0 h1).mono ?_; rintro e w' ⟨rfl, rfl⟩) | (go_at_call 6; refine (behind_any _ _ _).mono ?_; rintro e w' ⟨rfl, rfl⟩))
  go_ret
  exact ⟨rfl, rfl⟩

theorem walk0 (a0 a1 : Int) (a2 : Bool) (a3 : Int) (w : World) :
    Calls Trym.prog 5 #[.int .i64 a0, .int .i64 a1, .bool a2, .int .i64 a3] w fun e w' => e = .returned (.bool true) ∧ w' = w := by
  by_cases c : a1 < 0 ∨ 3 < a1
  · exact out_c a0 a1 a2 a3 w c
  · by_cases d : a3 < -1152921504606846976 ∨ 1152921504606846976 ≤ a3
    · exact out_k a0 a1 a2 a3 w (by omega) (by omega) d
    · exact inside a0 a1 a2 a3 w (by omega) (by omega) (by omega) (by omega)

theorem walk (a0 : Int) (a1 : Int) (a2 : Bool) (a3 : Int) (w0 : (Lit.int .i64 a0).wf = true) (w1 : (Lit.int .i64 a1).wf = true) (w3 : (Lit.int .i64 a3).wf = true) (w : World) :
    Calls Trym.prog 5 #[.int .i64 a0, .int .i64 a1, .bool a2, .int .i64 a3] w fun e w' => e = .returned (.bool true) ∧ Grown w w' :=
  (walk0 a0 a1 a2 a3 w).mono fun _ _ ⟨he, hw⟩ => ⟨he, by rw [hw]; exact Grown.refl _⟩

/-! ### THE ROW's STEP: WRITTEN OUT: LEAVE IT -/
set_option maxRecDepth 100000 in
theorem lifted (os : Os) (started : os.Started) (H : Type) (enc : TypeId × Value → H) :
    ReturnsInHanded {} Trym.checked os 5 .any (Rows.fnRateRolesPackedStateRoundTripSpec.pre6 enc Trym.prog Trym.f5 Rows.fnRateRolesPackedStateRoundTripRow.domain false) (Rows.fnRateRolesPackedStateRoundTripSpec.post enc Trym.prog Trym.f5 false true false false) := by
  refine returnsInHanded_of_change (C := Trym.checked) own started (by kernel_rfl) Trym.func5
    (ChangeSpec.witness6 (enc := enc) (C := Trym.checked) false ⟨#[], #[.int .i64 0, .int .i64 0, .bool false, .int .i64 0], []⟩ 8 (by kernel_rfl) (by kernel_rfl) (by kernel_rfl) (by kernel_rfl)) ?_
  intro W base args ds gs before hval0 hW hcnd _
  have hval : ∀ (j : Nat) t v, Trym.f5.params[j]? = some t → args[j]? = some v → Value.okWide Trym.prog W .any base t v := hval0
  have hW' := hW
  obtain ⟨p, q, hA0, hV, rfl, hfz, hnd⟩ := hW
  have hA : DataW.TrodAll enc Trym.prog W 0 (fun _ => true) true Trym.f5.params.toList args.toList ds p := hA0
  rw [Trym.params5] at hA hval
  obtain ⟨v0, vs0, d0, ds0, p0, q0, hargs, rfl, rfl, h0, r0⟩ := trodAll_cons hA
  obtain ⟨v1, vs1, d1, ds1, p1, q1, rfl, rfl, rfl, h1, r1⟩ := trodAll_cons r0
  obtain ⟨v2, vs2, d2, ds2, p2, q2, rfl, rfl, rfl, h2, r2⟩ := trodAll_cons r1
  obtain ⟨v3, vs3, d3, ds3, p3, q3, rfl, rfl, rfl, h3, r3⟩ := trodAll_cons r2
  obtain ⟨rfl, rfl, rfl⟩ := trodAll_nil r3
  obtain rfl : args = #[v0, v1, v2, v3] := by cases args; simp_all
  obtain ⟨rfl, rfl⟩ := trodVars_none hV
  obtain ⟨a0, rfl, rfl, rfl, w0⟩ := open_int Trym.underlying2 (hval 0 2 v0 rfl rfl) h0
  obtain ⟨a1, rfl, rfl, rfl, w1⟩ := open_int Trym.underlying3 (hval 1 3 v1 rfl rfl) h1
  obtain ⟨a2, rfl, rfl, rfl⟩ := open_bool Trym.underlying4 (hval 2 4 v2 rfl rfl) h2
  obtain ⟨a3, rfl, rfl, rfl, w3⟩ := open_int Trym.underlying2 (hval 3 2 v3 rfl rfl) h3
  clear hA0 hval0
  simp only [List.append_nil] at hW'
  refine (walk a0 a1 a2 a3 w0 w1 w3 W).mono fun e W' ⟨he, hg⟩ => ?_
  subst he
  exact ⟨_, rfl, post_of_same (pa := []) (pv := []) hW' (fun _ _ _ => (trodAll_cons_mk (shut_bool Trym.underlying4 _) trodAll_mk0)) (fun sp _ => (trodAll_cons_mk (shut_int Trym.underlying2 w0) (trodAll_cons_mk (shut_int Trym.underlying3 w1) (trodAll_cons_mk (shut_bool Trym.underlying4 _) (trodAll_cons_mk (shut_int Trym.underlying2 w3) trodAll_mk0))))) (fun _ _ => rfl) rfl
    (hg.frame _) hg.2.1 (ok_one (by kernel_rfl) rfl (okWide_bool_mk Trym.underlying4 _))⟩

theorem over : Rows.fnRateRolesPackedStateRoundTripRow.holds Trym.pinned (OpenSpec.ofChange Rows.fnRateRolesPackedStateRoundTripSpec) :=
  OpenClaim.holds_of_wide 5 Trym.f5 rfl rfl rfl rfl rfl rfl rfl ⟨rfl, rfl, rfl, rfl, rfl⟩ rfl rfl rfl rfl rfl (by kernel_rfl) Trym.func5 (by kernel_rfl)
    (of_decide_eq_true (by kernel_rfl)) (by unfold Func.isWrapper; first | (rw [if_pos (by decide +kernel)]; kernel_rfl) | (rw [if_neg (by decide +kernel)]; exact ⟨rfl, rfl⟩))
    (fun os started H enc _ => lifted os started H enc)

/-- ████ THE STATEMENT ████ -/
theorem proved : Rows.FnRateRolesPackedStateRoundTripSaid :=
  over
#print axioms proved
end Go.Proofs.Qxb6602760aMods.fnRateRolesPackedStateRoundTrip
