/- The contracts of tolerances.apply (function 13) and ZZtolerancesApply (function 10): what they compute, as plain functions. -/
import Derived.Test.Qxb6601468aModsFloats
namespace Go.Proofs.Qxb6601468aMods
open Go.RowKit

theorem run_store_float (P : Program) (w : World) (a : Addr) (m : Mode) (k : FloatKind) (n : Nat) : (store a (.float k n) m).run P w = stored P w a (.float k n) m := run_store P w a _ m rfl
attribute [local go_sem] run_store_float

/-! ### the plain functions -/
/-- Above 1, or at 1 with a count above the current one. -/
def upB (r : Nat) (c k : Int) : Bool := FloatKind.f64.format.order r 4607182418800017408 == some .gt || (FloatKind.f64.format.order r 4607182418800017408 == some .eq && decide (k < c))
def askC (u d r : Nat) (c k : Int) : Int := if keepsB u d r then k else c
def askT (u d r : Nat) (c k : Int) : Bool := keepsB u d r && !(c == k)
def askW (u d r : Nat) (c k : Int) : Nat := if askT u d r c k then (if upB r c k then u else d) else 0

theorem below_apply {w w1 : World} {o1 o2 : Obj} {v0 v1 v2 v3 : Value} (hb : Below ((w.alloc o1).alloc o2).heap.size ((w.alloc o1).alloc o2) w1) :
    Below w.heap.size w ((((w1.setCell ⟨w.heap.size + 1, 0, none⟩ v0).setCell ⟨w.heap.size + 1, 1, none⟩ v1).setCell ⟨w.heap.size + 1, 2, none⟩ v2).setCell ⟨w.heap.size + 1, 3, none⟩ v3) := by
  have h1 : Below w.heap.size w w1 := (((Below.refl _ w).alloc (Nat.le_refl _) o1).alloc (by simp) o2).trans (hb.mono (by simp; omega))
  exact (((h1.setCell (by simp) _).setCell (by simp) _).setCell (by simp) _).setCell (by simp) _

theorem agg_of {c c' : Int} {t t' : Bool} {n n' : Nat} (h1 : c' = c) (h2 : t' = t) (h3 : n' = n) :
    Ending.returned (.agg #[.int .i32 c, .pointer none, .bool t, .float .f64 n]) = .returned (.agg #[.int .i32 c', .pointer none, .bool t', .float .f64 n']) := by rw [h1, h2, h3]

set_option maxHeartbeats 400000 in
theorem apply_any (u d r : Nat) (c k : Int) (w : World) :
    Calls Trym.prog 13 #[.agg #[.float .f64 u, .float .f64 d], .float .f64 r, .int .i32 c, .int .i32 k] w fun e w' =>
      e = .returned (.agg #[.int .i32 (askC u d r c k), .pointer none, .bool (askT u d r c k), .float .f64 (askW u d r c k)]) ∧ Below w.heap.size w w' := by
  cases hk : keepsB u d r
  · have HK : Hid (askC u d r c k = c ∧ askT u d r c k = false ∧ askW u d r c k = 0) := ⟨by simp [askC, hk], by simp [askT, hk], by simp [askW, askT, hk]⟩
    go_enter Trym.func13, Trym.ntmps13
    go_wp2_with fail
    refine (keeps_any _ _ _ _).mono ?_
    rintro e w1 ⟨rfl, hb⟩
    obtain ⟨hc, hf⟩ := bcell hb
    have hz : w.heap.size + 1 < w1.heap.size := by have := hb.size; simp at this; omega
    go_wp2
    exact bodyPost_ret (v := .agg #[.int .i32 c, .pointer none, .bool false, .float .f64 0]) (by simp [results, Trym.results13, go_sem, hc]) rfl ⟨agg_of HK.out.1 HK.out.2.1 HK.out.2.2, below_apply hb⟩
  · cases he : (c == k)
    · cases hu : upB r c k
      · have HK : Hid (askC u d r c k = k ∧ askT u d r c k = true ∧ askW u d r c k = d) := ⟨by simp [askC, hk], by simp [askT, hk, he], by simp [askW, askT, hk, he, hu]⟩
        have hu1 : (FloatKind.f64.format.order r 4607182418800017408 == some .gt) = false := by
          revert hu; unfold upB; cases (FloatKind.f64.format.order r 4607182418800017408 == some .gt) <;> simp
        have hu2 : (FloatKind.f64.format.order r 4607182418800017408 == some .eq && decide (k < c)) = false := by
          revert hu; unfold upB; cases (FloatKind.f64.format.order r 4607182418800017408 == some .eq && decide (k < c)) <;> simp
        clear hu
        cases hq : (FloatKind.f64.format.order r 4607182418800017408 == some .eq)
        · clear hu2
          go_enter Trym.func13, Trym.ntmps13
          go_wp2_with fail
          refine (keeps_any _ _ _ _).mono ?_
          rintro e w1 ⟨rfl, hb⟩
          obtain ⟨hc, hf⟩ := bcell hb
          have hz : w.heap.size + 1 < w1.heap.size := by have := hb.size; simp at this; omega
          go_wp2
          exact bodyPost_ret (v := .agg #[.int .i32 k, .pointer none, .bool true, .float .f64 d]) (by simp [results, Trym.results13, go_sem, hc]) rfl ⟨agg_of HK.out.1 HK.out.2.1 HK.out.2.2, below_apply hb⟩
        · have hlt : ¬ k < c := by rw [hq] at hu2; simpa using hu2
          clear hu2
          go_enter Trym.func13, Trym.ntmps13
          go_wp2_with fail
          refine (keeps_any _ _ _ _).mono ?_
          rintro e w1 ⟨rfl, hb⟩
          obtain ⟨hc, hf⟩ := bcell hb
          have hz : w.heap.size + 1 < w1.heap.size := by have := hb.size; simp at this; omega
          go_wp2
          exact bodyPost_ret (v := .agg #[.int .i32 k, .pointer none, .bool true, .float .f64 d]) (by simp [results, Trym.results13, go_sem, hc]) rfl ⟨agg_of HK.out.1 HK.out.2.1 HK.out.2.2, below_apply hb⟩
      · have HK : Hid (askC u d r c k = k ∧ askT u d r c k = true ∧ askW u d r c k = u) := ⟨by simp [askC, hk], by simp [askT, hk, he], by simp [askW, askT, hk, he, hu]⟩
        cases hg : (FloatKind.f64.format.order r 4607182418800017408 == some .gt)
        · have hu2 : (FloatKind.f64.format.order r 4607182418800017408 == some .eq && decide (k < c)) = true := by
            rw [upB, hg] at hu; simpa using hu
          have hq : (FloatKind.f64.format.order r 4607182418800017408 == some .eq) = true := by
            rw [Bool.and_eq_true] at hu2; exact hu2.1
          have hlt : k < c := by rw [Bool.and_eq_true] at hu2; simpa using hu2.2
          clear hu2 hu
          go_enter Trym.func13, Trym.ntmps13
          go_wp2_with fail
          refine (keeps_any _ _ _ _).mono ?_
          rintro e w1 ⟨rfl, hb⟩
          obtain ⟨hc, hf⟩ := bcell hb
          have hz : w.heap.size + 1 < w1.heap.size := by have := hb.size; simp at this; omega
          go_wp2
          exact bodyPost_ret (v := .agg #[.int .i32 k, .pointer none, .bool true, .float .f64 u]) (by simp [results, Trym.results13, go_sem, hc]) rfl ⟨agg_of HK.out.1 HK.out.2.1 HK.out.2.2, below_apply hb⟩
        · clear hu
          go_enter Trym.func13, Trym.ntmps13
          go_wp2_with fail
          refine (keeps_any _ _ _ _).mono ?_
          rintro e w1 ⟨rfl, hb⟩
          obtain ⟨hc, hf⟩ := bcell hb
          have hz : w.heap.size + 1 < w1.heap.size := by have := hb.size; simp at this; omega
          go_wp2
          exact bodyPost_ret (v := .agg #[.int .i32 k, .pointer none, .bool true, .float .f64 u]) (by simp [results, Trym.results13, go_sem, hc]) rfl ⟨agg_of HK.out.1 HK.out.2.1 HK.out.2.2, below_apply hb⟩
    · have HK : Hid (askC u d r c k = k ∧ askT u d r c k = false ∧ askW u d r c k = 0) := ⟨by simp [askC, hk], by simp [askT, hk, he], by simp [askW, askT, hk, he]⟩
      go_enter Trym.func13, Trym.ntmps13
      go_wp2_with fail
      refine (keeps_any _ _ _ _).mono ?_
      rintro e w1 ⟨rfl, hb⟩
      obtain ⟨hc, hf⟩ := bcell hb
      have hz : w.heap.size + 1 < w1.heap.size := by have := hb.size; simp at this; omega
      go_wp2
      exact bodyPost_ret (v := .agg #[.int .i32 k, .pointer none, .bool false, .float .f64 0]) (by simp [results, Trym.results13, go_sem, hc]) rfl ⟨agg_of HK.out.1 HK.out.2.1 HK.out.2.2, below_apply hb⟩

set_option maxHeartbeats 400000 in
theorem zz_any (u d r : Nat) (c k : Int) (w : World) :
    Calls Trym.prog 10 #[.float .f64 u, .float .f64 d, .float .f64 r, .int .i32 c, .int .i32 k] w fun e w' =>
      e = .returned (.tuple #[.int .i32 (askC u d r c k), .pointer none, .bool (askT u d r c k), .float .f64 (askW u d r c k)]) ∧ Below w.heap.size w w' := by
  go_enter Trym.func10, Trym.ntmps10
  go_wp2_with fail
  refine (apply_any _ _ _ _ _ _).mono ?_
  rintro e w1 ⟨rfl, hb⟩
  have hz : w.heap.size ≤ w1.heap.size := hb.size
  go_wp2
  go_quiet (fail)
  go_wp2
  refine bodyPost_ret (v := .tuple #[.int .i32 (askC u d r c k), .pointer none, .bool (askT u d r c k), .float .f64 (askW u d r c k)]) (by simp [results, Trym.results10, go_sem]) rfl ⟨rfl, ?_⟩
  exact below_drewN (hb.alloc hz _) _

end Go.Proofs.Qxb6601468aMods
