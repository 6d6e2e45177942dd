/- The proof of Rows.FnPatternsMeetModelSaid: the guide's frame for this function, the walk filled in. -/
import Derived.Test.Qxb6602057aModsRows
import Derived.WalkKit
import Derived.ProofKit
import Derived.OpenShut
import Derived.ShutString
import Derived.Below
import Derived.Laws.Cover2
import Derived.Test.Qxb6602057aModsMeet
import Derived.Test.Qxb6602057aModsTable
namespace Go.Proofs.Qxb6602057aMods.fnPatternsMeetModel
open Go.ChangeShapes Go.WideShapes Go.ChangeAt Go.RowKit
open Go.ChangeMaps (open_string shut_string)
set_option linter.unusedVariables false

theorem own : ownKnob Trym.prog.godebug = none := by kernel_rfl

theorem below2 {w w1 w2 : World} (h1 : Below w.heap.size w w1) (h2 : Below w1.heap.size w1 w2) : Below w.heap.size w w2 := h1.trans (h2.mono h1.size)

/-! ### the bound on the lengths -/
set_option maxHeartbeats 400000 in
theorem bytes_small (p q : ByteArray) (w : World) (hp : p.size ≤ 1024) (hq : q.size ≤ 1024) :
    Calls Trym.prog 9 #[.string p, .string q] w fun e w' => e = .returned (.bool true) ∧ w = w' := by
  go_enter Trym.func9, Trym.ntmps9
  go_wp2
  go_ret
  exact ⟨rfl, rfl⟩
set_option maxHeartbeats 400000 in
theorem bytes_any (p q : ByteArray) (w : World) (hp : p.size ≤ maxLen) (hq : q.size ≤ maxLen) :
    Calls Trym.prog 9 #[.string p, .string q] w fun e w' => ∃ v : Bool, e = .returned (.bool v) ∧ w' = w := by
  unfold maxLen at hp hq
  go_enter Trym.func9, Trym.ntmps9
  go_wp2
  all_goals
    go_ret
    exact ⟨_, rfl, rfl⟩

/-! ### the law where a text is too long -/
set_option maxHeartbeats 400000 in
theorem long_any (p q : ByteArray) (w : World) (hp : p.size ≤ maxLen) (hq : q.size ≤ maxLen) (hl : 1024 < p.size ∨ 1024 < q.size) :
    Calls Trym.prog 3 #[.string p, .string q] w fun e w' => e = .returned (.bool true) ∧ w' = w := by
  by_cases h1 : 1024 < p.size
  · have h1' : (1024 : Int) < (p.size : Int) := by omega
    clear hl
    go_enter Trym.func3, Trym.ntmps3
    go_wp2_with fail
    refine (bytes_any p q _ hp hq).mono ?_
    rintro e w1 ⟨v, rfl, rfl⟩
    cases v
    · go_wp2
      go_ret
      exact ⟨rfl, rfl⟩
    · go_wp2
      go_ret
      exact ⟨rfl, rfl⟩
  · have h2 : 1024 < q.size := by omega
    have h2' : (1024 : Int) < (q.size : Int) := by omega
    have h1' : ¬ (1024 : Int) < (p.size : Int) := by omega
    clear hl
    go_enter Trym.func3, Trym.ntmps3
    go_wp2_with fail
    refine (bytes_any p q _ hp hq).mono ?_
    rintro e w1 ⟨v, rfl, rfl⟩
    cases v
    · go_wp2
      go_ret
      exact ⟨rfl, rfl⟩
    · go_wp2
      go_ret
      exact ⟨rfl, rfl⟩

/-! ### the law -/
set_option maxHeartbeats 1000000 in
theorem short_any (p q : ByteArray) (w : World) (hp : p.size ≤ 1024) (hq : q.size ≤ 1024) :
    Calls Trym.prog 3 #[.string p, .string q] w fun e w' => e = .returned (.bool true) ∧ Below w.heap.size w w' := by
  have hla := runes_le p
  have hlb := runes_le q
  obtain ⟨cap, arr, hr, harr⟩ := runes_ex
  have r1 := hr p hp
  have r2 := hr q hq
  clear hr
  have HARR : Hid (∀ s w k, k < (runes s).length → (arr w s)[k]? = some (.int .i32 ((runes s).getD k 0))) := harr
  clear harr
  have hlb2 : (runes q).length ≤ 1024 := by omega
  have hla2 : (runes p).length ≤ 1024 := by omega
  have HM : Hid ((F (runes p) (runes q) (runes p).length (runes q).length == B (runes p) (runes q) 0 0) = true) := by
    show (_ == _) = true
    rw [meet]; simp
  go_enter Trym.func3, Trym.ntmps3
  go_wp2_with (go_at_call 9; refine (bytes_small p q _ hp hq).mono ?_; rintro e w1 ⟨rfl, rfl⟩)
  refine (zzpm_any p q _ hp hq).mono ?_
  rintro e w2 ⟨rfl, hb⟩
  have H1 : Hid (∀ k, k < (runes p).length → ((w2.alloc (.cells (arr w2 p) 21)).alloc (.cells (arr (w2.alloc (.cells (arr w2 p) 21)).drew q) 21)).drew.drew.cell? ⟨w2.heap.size, k, none⟩ = some (.int .i32 ((runes p).getD k 0))) := fun k hk => by
    rw [World.cell?_drew, World.cell?_drew, World.cell?_alloc_past _ _ _ (by simp), World.cell?_alloc_at _ _ _ _ rfl]
    exact HARR.out p _ k hk
  have H2 : Hid (∀ k, k < (runes q).length → ((w2.alloc (.cells (arr w2 p) 21)).alloc (.cells (arr (w2.alloc (.cells (arr w2 p) 21)).drew q) 21)).drew.drew.cell? ⟨w2.heap.size + 1, k, none⟩ = some (.int .i32 ((runes q).getD k 0))) := fun k hk => by
    rw [World.cell?_drew, World.cell?_drew, World.cell?_alloc_at _ _ _ _ (by simp)]
    exact HARR.out q _ k hk
  go_wp2_with fail
  refine (table_any (runes p) (runes q) w2.heap.size (w2.heap.size + 1) _ _ _ hla2 hlb2 (by simp; omega) (by simp) H1.out H2.out).mono ?_
  rintro e w3 ⟨rfl, hb3⟩
  have hm := HM.out
  go_wp2
  go_ret
  refine ⟨rfl, ?_⟩
  refine below2 (w1 := w2) hb ?_
  refine Below.trans ((((Below.refl _ w2).alloc (Nat.le_refl _) _).alloc (by simp) _).drew).drew (hb3.mono (by simp; omega))

theorem walk (a0 a1 : ByteArray) (w0 : a0.size ≤ maxLen) (w1 : a1.size ≤ maxLen) (w : World) :
    Calls Trym.prog 3 #[.string a0, .string a1] w fun e w' => e = .returned (.bool true) ∧ Below w.heap.size w w' := by
  by_cases h : 1024 < a0.size ∨ 1024 < a1.size
  · exact (long_any a0 a1 w w0 w1 h).mono fun _ _ ⟨he, hw⟩ => ⟨he, by rw [hw]; exact Below.refl _ _⟩
  · exact short_any a0 a1 w (by omega) (by omega)

/-! ### the row's step -/
set_option maxRecDepth 100000 in
theorem lifted (os : Os) (started : os.Started) (H : Type) (enc : TypeId × Value → H) :
    ReturnsInHanded {} Trym.checked os 3 .any (Rows.fnPatternsMeetModelSpec.pre6 enc Trym.prog Trym.f3 Rows.fnPatternsMeetModelRow.domain false) (Rows.fnPatternsMeetModelSpec.post enc Trym.prog Trym.f3 false true false false) := by
  refine returnsInHanded_of_change (C := Trym.checked) own started (by kernel_rfl) Trym.func3
    (ChangeSpec.witness6 (enc := enc) (C := Trym.checked) false ⟨#[], #[.string ByteArray.empty, .string ByteArray.empty], []⟩ 8 (by kernel_rfl) (by kernel_rfl) (by kernel_rfl) (by kernel_rfl)) ?_
  intro W base args ds gs before hval0 hW hcnd _
  have hval : ∀ (j : Nat) t v, Trym.f3.params[j]? = some t → args[j]? = some v → Value.okWide Trym.prog W .any base t v := hval0
  have hW' := hW
  obtain ⟨p, q, hA0, hV, rfl, hfz, hnd⟩ := hW
  have hA : DataW.TrodAll enc Trym.prog W 0 (fun _ => true) true Trym.f3.params.toList args.toList ds p := hA0
  rw [Trym.params3] at hA hval
  obtain ⟨v0, vs0, d0, ds0, p0, q0, hargs, rfl, rfl, h0, r0⟩ := trodAll_cons hA
  obtain ⟨v1, vs1, d1, ds1, p1, q1, rfl, rfl, rfl, h1, r1⟩ := trodAll_cons r0
  obtain ⟨rfl, rfl, rfl⟩ := trodAll_nil r1
  obtain rfl : args = #[v0, v1] := by cases args; simp_all
  obtain ⟨rfl, rfl⟩ := trodVars_none hV
  obtain ⟨a0, rfl, rfl, rfl, w0⟩ := open_string Trym.underlying9 (hval 0 9 v0 rfl rfl) h0
  obtain ⟨a1, rfl, rfl, rfl, w1⟩ := open_string Trym.underlying9 (hval 1 9 v1 rfl rfl) h1
  clear hA0 hval0
  refine (walk a0 a1 w0 w1 W).mono fun e W' ⟨he, bel⟩ => ?_
  subst he
  exact ⟨_, rfl, _, _, _, [], _, [], hW', trodAll_mk1 (shut_bool Trym.underlying4 _), (trodAll_cons_mk (shut_string Trym.underlying9 w0) (trodAll_cons_mk (shut_string Trym.underlying9 w1) trodAll_mk0)), rfl, bel.frame _, fun h => by cases h⟩

theorem over : Rows.fnPatternsMeetModelRow.holds Trym.pinned (OpenSpec.ofChange Rows.fnPatternsMeetModelSpec) :=
  OpenClaim.holds_of_wide 3 Trym.f3 rfl rfl rfl rfl rfl rfl rfl ⟨rfl, rfl, rfl, rfl, rfl⟩ rfl rfl rfl rfl rfl (by kernel_rfl) Trym.func3 (by kernel_rfl)
    (of_decide_eq_true (by kernel_rfl)) (by unfold Func.isWrapper; first | (rw [if_pos (by decide +kernel)]; kernel_rfl) | (rw [if_neg (by decide +kernel)]; exact ⟨rfl, rfl⟩))
    (fun os started H enc _ => lifted os started H enc)

/-- The statement. -/
theorem proved : Rows.FnPatternsMeetModelSaid := over
#print axioms proved
end Go.Proofs.Qxb6602057aMods.fnPatternsMeetModel
