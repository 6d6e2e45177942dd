/- Plain facts on float64 words: what a NaN word that the tape gives compares as; '1 - d' and '1 + u' as the walk runs them. -/
import Derived.Test.Qxb6601468aModsRows
import Derived.WalkKit
import Derived.WalkSpells
import Derived.WalkLawsBesides
import Derived.BigQuiet
import Derived.Deep.QuietTactic
namespace Go.Proofs.Qxb6601468aMods
open Go.RowKit

/-- The word that the tape gives for an invalid operation. -/
def nanW (w : World) (x y : Nat) : Nat := Question.cut (.nanBits .f64 x y) (w.tape w.drawn (.nanBits .f64 x y))

theorem read_nanW (w : World) (x y : Nat) : ∃ s f, Ieee.double.read (nanW w x y) = .nan s f := by
  unfold nanW
  generalize w.tape w.drawn (.nanBits .f64 x y) = t
  have e1 : Ieee.double.signWeight = 9223372036854775808 := by decide
  have e2 : Ieee.double.binade = 4503599627370496 := by decide
  have e3 : Ieee.double.infRung = 9218868437227405312 := by decide
  have e4 : Question.cut (.nanBits .f64 x y) t = (t % 2) * 9223372036854775808 + 9218868437227405312 + 1 + (t / 2) % 4503599627370495 := rfl
  unfold Ieee.Format.read
  rw [e4, e1, e2, e3]
  have ha : t % 2 = 0 ∨ t % 2 = 1 := by omega
  have hb : (t / 2) % 4503599627370495 < 4503599627370495 := Nat.mod_lt _ (by decide)
  generalize t % 2 = a at ha ⊢
  generalize (t / 2) % 4503599627370495 = b at hb ⊢
  dsimp only
  rw [if_neg (by omega), if_neg (by omega), if_neg (by omega)]
  exact ⟨_, _, rfl⟩

theorem order_nanW (w : World) (x y z : Nat) : FloatKind.f64.format.order (nanW w x y) z = none := by
  obtain ⟨s, f, h⟩ := read_nanW w x y
  show (Ieee.double.read (nanW w x y)).order (Ieee.double.read z) = none
  rw [h]; rfl

theorem order_nanW' (w : World) (x y z : Nat) : FloatKind.f64.format.order z (nanW w x y) = none := by
  obtain ⟨s, f, h⟩ := read_nanW w x y
  show (Ieee.double.read z).order (Ieee.double.read (nanW w x y)) = none
  rw [h]; cases Ieee.double.read z <;> rfl

theorem run_sub_none (x y : Nat) (h : Ieee.double.sub x y = none) (w : World) : (binOp .sub 25 (.float .f64 x) (.float .f64 y)).run Trym.prog w = .ok (.float .f64 (nanW w x y)) w.drew := by
  have h' : FloatKind.f64.format.sub x y = none := h
  simp [binOp, Op.floatArith, h', Question.forced, nanW]
theorem run_add_none (x y : Nat) (h : Ieee.double.add x y = none) (w : World) : (binOp .add 25 (.float .f64 x) (.float .f64 y)).run Trym.prog w = .ok (.float .f64 (nanW w x y)) w.drew := by
  have h' : FloatKind.f64.format.add x y = none := h
  simp [binOp, Op.floatArith, h', Question.forced, nanW]
theorem run_sub_some (x y r : Nat) (h : Ieee.double.sub x y = some r) (w : World) : (binOp .sub 25 (.float .f64 x) (.float .f64 y)).run Trym.prog w = .ok (.float .f64 r) w :=
  run_float_arith w .sub 25 .f64 x y r h
theorem run_add_some (x y r : Nat) (h : Ieee.double.add x y = some r) (w : World) : (binOp .add 25 (.float .f64 x) (.float .f64 y)).run Trym.prog w = .ok (.float .f64 r) w :=
  run_float_arith w .add 25 .f64 x y r h

/-! ### the plain functions -/
def leqF (a b : Nat) : Bool := FloatKind.f64.format.order a b == some .lt || FloatKind.f64.format.order a b == some .eq

def keepsB (u d r : Nat) : Bool :=
  match Ieee.double.sub 4607182418800017408 d, Ieee.double.add 4607182418800017408 u with
  | some x, some y => leqF x r && leqF r y
  | _, _ => false

theorem keeps_sub_none {u d r : Nat} (h : Ieee.double.sub 4607182418800017408 d = none) : keepsB u d r = false := by
  unfold keepsB; rw [h]
theorem keeps_add_none {u d r : Nat} (h : Ieee.double.add 4607182418800017408 u = none) : keepsB u d r = false := by
  unfold keepsB; rw [h]; cases Ieee.double.sub 4607182418800017408 d <;> rfl
theorem keeps_some {u d r x y : Nat} (h : Ieee.double.sub 4607182418800017408 d = some x) (k : Ieee.double.add 4607182418800017408 u = some y) : keepsB u d r = (leqF x r && leqF r y) := by
  unfold keepsB; rw [h, k]
theorem keeps_low {u d r x : Nat} (h : Ieee.double.sub 4607182418800017408 d = some x) (k : leqF x r = false) : keepsB u d r = false := by
  unfold keepsB; rw [h]; cases Ieee.double.add 4607182418800017408 u <;> simp [k]

/-! ### keeps -/
set_option maxHeartbeats 400000 in
theorem keeps_any (u d r : Nat) (w : World) :
    Calls Trym.prog 14 #[.agg #[.float .f64 u, .float .f64 d], .float .f64 r] w fun e w' => e = .returned (.bool (keepsB u d r)) ∧ Below w.heap.size w w' := by
  rcases hs : Ieee.double.sub 4607182418800017408 d with _ | x
  · have hr := run_sub_none _ _ hs
    have hn : ∀ w, FloatKind.f64.format.order (nanW w 4607182418800017408 d) r = none := fun w => order_nanW w _ _ r
    have HK : Hid (keepsB u d r = false) := keeps_sub_none hs
    clear hs
    go_enter Trym.func14, Trym.ntmps14
    go_wp2
    go_ret
    rw [HK.out]
    exact ⟨rfl, ((Below.refl _ _).alloc (Nat.le_refl _) _).drew⟩
  · have hr := run_sub_some _ _ _ hs
    by_cases hl : FloatKind.f64.format.order x r = some .lt ∨ FloatKind.f64.format.order x r = some .eq
    · have hx : leqF x r = true := by simpa [leqF] using hl
      rcases ha : Ieee.double.add 4607182418800017408 u with _ | y
      · have hra := run_add_none _ _ ha
        have hn : ∀ w, FloatKind.f64.format.order r (nanW w 4607182418800017408 u) = none := fun w => order_nanW' w _ _ r
        have HK : Hid (keepsB u d r = false) := keeps_add_none ha
        clear hs ha hx
        go_enter Trym.func14, Trym.ntmps14
        go_wp2
        go_ret
        rw [HK.out]
        exact ⟨rfl, ((Below.refl _ _).alloc (Nat.le_refl _) _).drew⟩
      · have hra := run_add_some _ _ _ ha
        have HK : Hid (keepsB u d r = (leqF x r && leqF r y)) := keeps_some hs ha
        clear hs ha hx
        go_enter Trym.func14, Trym.ntmps14
        go_wp2
        go_ret
        rw [HK.out]
        exact ⟨rfl, ((Below.refl _ _).alloc (Nat.le_refl _) _)⟩
    · have hx : leqF x r = false := by simpa [leqF] using hl
      have HK : Hid (keepsB u d r = false) := keeps_low hs hx
      clear hs hx
      go_enter Trym.func14, Trym.ntmps14
      go_wp2
      go_ret
      rw [HK.out]
      exact ⟨rfl, ((Below.refl _ _).alloc (Nat.le_refl _) _)⟩

theorem bcell {W w1 : World} (hb : Below W.heap.size W w1) : (∀ b o, b < W.heap.size → w1.cell? ⟨b, o, none⟩ = W.cell? ⟨b, o, none⟩) ∧ (∀ b o, b < W.heap.size → w1.frozen? ⟨b, o, none⟩ = W.frozen? ⟨b, o, none⟩) :=
  ⟨fun b o h => hb.cell (p := ⟨b, o, none⟩) h, fun b o h => hb.frozen (p := ⟨b, o, none⟩) h⟩

end Go.Proofs.Qxb6601468aMods
