/- The contract of zzMeetCell (function 20): a cell of the table of suffixes, out of its three neighbours, is B; it only reads. -/
import Derived.Test.Qxb6602057aModsMem
namespace Go.Proofs.Qxb6602057aMods
open Go.RowKit

theorem ret_boolC {a b : Bool} (h : a = b) : Ending.returned (.bool a) = .returned (.bool b) := by rw [h]
theorem st_ofC {a : List Int} {i : Nat} (h : i < a.length) (e : (a.getD i 0 == 42) = true) : stA a i = true ∧ onA a i = false := by
  simp only [stA, onA, e, decide_eq_true h]; exact ⟨rfl, rfl⟩
theorem on_ofC {a : List Int} {i : Nat} (h : i < a.length) (e : (a.getD i 0 == 42) = false) : stA a i = false ∧ onA a i = true := by
  simp only [stA, onA, e, decide_eq_true h]; exact ⟨rfl, rfl⟩
theorem end_ofC {a : List Int} {i : Nat} (h : ¬ i < a.length) : stA a i = false ∧ onA a i = false := by
  simp only [stA, onA, decide_eq_false h]; exact ⟨rfl, rfl⟩
/-- B by where the two patterns stand, off the end. -/
theorem B_by {a b : List Int} {i j : Nat} {sa oa sb ob : Bool} (hne : (i == a.length && j == b.length) = false) (ha : stA a i = sa ∧ onA a i = oa) (hb : stA b j = sb ∧ onA b j = ob) :
    B a b i j = (((sa || (sb && oa)) && B a b (i + 1) j) || ((sb || (sa && ob)) && B a b i (j + 1)) || ((oa && ob && mt a b i j) && B a b (i + 1) (j + 1))) := by
  rw [B_eq, hne]
  simp only [eD, eR, eX, ha.1, ha.2, hb.1, hb.2, Bool.false_or]
theorem B_end (a b : List Int) : B a b a.length b.length = true := by rw [B_eq]; simp

theorem B_endC {a b : List Int} {i j : Nat} (hi : i ≤ a.length) (hj : j ≤ b.length) (h1 : ¬ i < a.length) (h2 : ¬ j < b.length) : B a b i j = true := by
  have e1 : i = a.length := by omega
  have e2 : j = b.length := by omega
  rw [e1, e2]; exact B_end a b
theorem ne_j {a b : List Int} {i j : Nat} (h : j < b.length) : (i == a.length && j == b.length) = false := by
  have e : (j == b.length) = false := by simp; omega
  rw [e, Bool.and_false]
theorem ne_i {a b : List Int} {i j : Nat} (h : i < a.length) : (i == a.length && j == b.length) = false := by
  have e : (i == a.length) = false := by simp; omega
  rw [e, Bool.false_and]
theorem mul_cast (i wd : Nat) : ((i : Int) + 1) * (wd : Int) = (((i + 1) * wd : Nat) : Int) := by simp

theorem idx_le {i n j m wd : Nat} (hi : i ≤ n) (hj : j ≤ m) (hw : wd = m + 1) : i * wd + j < (n + 1) * wd := by
  have h1 : i * wd ≤ n * wd := Nat.mul_le_mul_right _ hi
  rw [Nat.succ_mul]; omega

set_option maxHeartbeats 4000000 in
theorem cell_any (a b : List Int) (ga gb gc ca cb L cc wd i j : Nat) (w : World) (ha1 : a.length ≤ 1024) (hb1 : b.length ≤ 1024) (hi : i ≤ a.length) (hj : j ≤ b.length)
    (hwd : wd = b.length + 1) (hL : L = (a.length + 1) * wd)
    (hca : ∀ k, k < a.length → w.cell? ⟨ga, k, none⟩ = some (.int .i32 (a.getD k 0)))
    (hcb : ∀ k, k < b.length → w.cell? ⟨gb, k, none⟩ = some (.int .i32 (b.getD k 0)))
    (hD : i < a.length → w.cell? ⟨gc, (i + 1) * wd + j, none⟩ = some (.bool (B a b (i + 1) j)))
    (hR : j < b.length → w.cell? ⟨gc, i * wd + j + 1, none⟩ = some (.bool (B a b i (j + 1))))
    (hX : i < a.length → j < b.length → w.cell? ⟨gc, (i + 1) * wd + j + 1, none⟩ = some (.bool (B a b (i + 1) (j + 1)))) :
    Calls Trym.prog 20 #[.slice (some ⟨ga, 0, none⟩) a.length ca, .slice (some ⟨gb, 0, none⟩) b.length cb, .slice (some ⟨gc, 0, none⟩) L cc, .int .i64 wd, .int .i64 i, .int .i64 j] w
      fun e w' => e = .returned (.bool (B a b i j)) ∧ ∃ q, w' = w.drewN q := by
  have hwd2 : wd ≤ 1025 := by omega
  have hLb : L ≤ 1050625 := by
    rw [hL]
    have h1 : (a.length + 1) * wd ≤ 1025 * 1025 := Nat.mul_le_mul (by omega) hwd2
    omega
  have hidx : i * wd + j < L := by rw [hL]; exact idx_le hi hj hwd
  have bI0 : (0 : Int) ≤ (i : Int) * (wd : Int) := by rw [← Int.natCast_mul]; omega
  have bI1 : (i : Int) * (wd : Int) + (j : Int) < (L : Int) := by rw [← Int.natCast_mul]; omega
  have HA : Hid (∀ k, k < a.length → w.cell? ⟨ga, k, none⟩ = some (.int .i32 (a.getD k 0))) := hca
  have HB : Hid (∀ k, k < b.length → w.cell? ⟨gb, k, none⟩ = some (.int .i32 (b.getD k 0))) := hcb
  have HD : Hid (i < a.length → w.cell? ⟨gc, (i + 1) * wd + j, none⟩ = some (.bool (B a b (i + 1) j))) := hD
  have HR : Hid (j < b.length → w.cell? ⟨gc, i * wd + j + 1, none⟩ = some (.bool (B a b i (j + 1)))) := hR
  have HX : Hid (i < a.length → j < b.length → w.cell? ⟨gc, (i + 1) * wd + j + 1, none⟩ = some (.bool (B a b (i + 1) (j + 1)))) := hX
  have HW : Hid (wd = b.length + 1) := hwd
  have HL : Hid (L = (a.length + 1) * wd) := hL
  clear hca hcb hD hR hX hwd hL hidx
  by_cases hip : i < a.length
  · have cA := HA.out i hip
    have cD := HD.out hip
    have hidx1 : (i + 1) * wd + j < L := by rw [HL.out]; exact idx_le (by omega) hj HW.out
    have bD0 : (0 : Int) ≤ ((i : Int) + 1) * (wd : Int) := by rw [mul_cast]; omega
    have bD1 : ((i : Int) + 1) * (wd : Int) + (j : Int) < (L : Int) := by rw [mul_cast]; omega
    clear hidx1
    obtain ⟨x, hx⟩ : ∃ x, x = a.getD i 0 := ⟨_, rfl⟩
    rw [← hx] at cA
    have HXv : Hid (x = a.getD i 0) := hx
    clear hx
    have hip1 : (i : Int) < (a.length : Int) := by omega
    have z1 : ((i : Int) == (a.length : Int)) = false := by simp; omega
    cases x42 : (x == 42)
    · have ha := on_ofC hip (by rw [← HXv.out]; exact x42)
      by_cases hjb : j < b.length
      · have cB := HB.out j hjb
        have cR := HR.out hjb
        have cX := HX.out hip hjb
        have hidx2 : (i + 1) * wd + (j + 1) < L := by rw [HL.out]; exact idx_le (by omega) (by omega) HW.out
        have bX : ((i : Int) + 1) * (wd : Int) + (j : Int) + 1 < (L : Int) := by rw [mul_cast]; omega
        clear hidx2
        have hidx3 : i * wd + (j + 1) < L := by rw [HL.out]; exact idx_le hi (by omega) HW.out
        have bR : (i : Int) * (wd : Int) + (j : Int) + 1 < (L : Int) := by rw [← Int.natCast_mul]; omega
        clear hidx3
        obtain ⟨y, hy⟩ : ∃ y, y = b.getD j 0 := ⟨_, rfl⟩
        rw [← hy] at cB
        have HYv : Hid (y = b.getD j 0) := hy
        clear hy
        have hjb1 : (j : Int) < (b.length : Int) := by omega
        have z2 : ((j : Int) == (b.length : Int)) = false := by simp; omega
        have hne : (i == a.length && j == b.length) = false := ne_j hjb
        cases y42 : (y == 42)
        · have hb := on_ofC hjb (by rw [← HYv.out]; exact y42)
          cases x63 : (x == 63)
          · cases y63 : (y == 63)
            · cases xy : (x == y)
              · skip
                have hmt : mt a b i j = false := by simp only [mt, ← HXv.out, ← HYv.out, x63, y63, xy, Bool.or_self]
                have HV : Hid (B a b i j = false) := by have e := B_by hne ha hb; rw [hmt] at e; exact e
                clear hmt ha hb hne
                go_enter Trym.func20, Trym.ntmps20
                go_wp2
                go_quiet (fail)
                go_wp2
                go_ret
                exact ⟨ret_boolC HV.out.symm, _, rfl⟩
              · skip
                have hmt : mt a b i j = true := by simp only [mt, ← HXv.out, ← HYv.out, x63, y63, xy, Bool.or_true]
                have HV : Hid (B a b i j = B a b (i + 1) (j + 1)) := by have e := B_by hne ha hb; rw [hmt] at e; exact e
                clear hmt ha hb hne
                go_enter Trym.func20, Trym.ntmps20
                go_wp2
                go_quiet (fail)
                go_wp2
                go_ret
                exact ⟨ret_boolC HV.out.symm, _, rfl⟩
            · skip
              have hmt : mt a b i j = true := by simp only [mt, ← HXv.out, ← HYv.out, x63, y63, Bool.or_true, Bool.true_or]
              have HV : Hid (B a b i j = B a b (i + 1) (j + 1)) := by have e := B_by hne ha hb; rw [hmt] at e; exact e
              clear hmt ha hb hne
              go_enter Trym.func20, Trym.ntmps20
              go_wp2
              go_quiet (fail)
              go_wp2
              go_ret
              exact ⟨ret_boolC HV.out.symm, _, rfl⟩
          · skip
            have hmt : mt a b i j = true := by simp only [mt, ← HXv.out, x63, Bool.true_or]
            have HV : Hid (B a b i j = B a b (i + 1) (j + 1)) := by have e := B_by hne ha hb; rw [hmt] at e; exact e
            clear hmt ha hb hne
            go_enter Trym.func20, Trym.ntmps20
            go_wp2
            go_quiet (fail)
            go_wp2
            go_ret
            exact ⟨ret_boolC HV.out.symm, _, rfl⟩
        · have hb := st_ofC hjb (by rw [← HYv.out]; exact y42)
          cases vR : B a b i (j + 1)
          · rw [vR] at cR
            cases vD : B a b (i + 1) j
            · rw [vD] at cD
              have HV : Hid (B a b i j = false) := by have e := B_by hne ha hb; rw [vD, vR] at e; exact e
              clear vD vR ha hb hne
              go_enter Trym.func20, Trym.ntmps20
              go_wp2
              go_ret
              exact ⟨ret_boolC HV.out.symm, 0, rfl⟩
            · rw [vD] at cD
              have HV : Hid (B a b i j = true) := by have e := B_by hne ha hb; rw [vD, vR] at e; exact e
              clear vD vR ha hb hne
              go_enter Trym.func20, Trym.ntmps20
              go_wp2
              go_ret
              exact ⟨ret_boolC HV.out.symm, 0, rfl⟩
          · rw [vR] at cR
            have HV : Hid (B a b i j = true) := by have e := B_by hne ha hb; rw [vR] at e; exact e.trans (by simp)
            clear vR ha hb hne
            go_enter Trym.func20, Trym.ntmps20
            go_wp2
            go_ret
            exact ⟨ret_boolC HV.out.symm, 0, rfl⟩
      · have hb := end_ofC hjb
        have hjb2 : decide ((j : Int) < (b.length : Int)) = false := decide_eq_false (by omega)
        have hne : (i == a.length && j == b.length) = false := ne_i hip
        have HV : Hid (B a b i j = false) := by have e := B_by hne ha hb; exact e
        clear ha hb hne
        go_enter Trym.func20, Trym.ntmps20
        go_wp2
        go_ret
        exact ⟨ret_boolC HV.out.symm, 0, rfl⟩
    · have ha := st_ofC hip (by rw [← HXv.out]; exact x42)
      by_cases hjb : j < b.length
      · have cB := HB.out j hjb
        have cR := HR.out hjb
        have cX := HX.out hip hjb
        have hidx2 : (i + 1) * wd + (j + 1) < L := by rw [HL.out]; exact idx_le (by omega) (by omega) HW.out
        have bX : ((i : Int) + 1) * (wd : Int) + (j : Int) + 1 < (L : Int) := by rw [mul_cast]; omega
        clear hidx2
        have hidx3 : i * wd + (j + 1) < L := by rw [HL.out]; exact idx_le hi (by omega) HW.out
        have bR : (i : Int) * (wd : Int) + (j : Int) + 1 < (L : Int) := by rw [← Int.natCast_mul]; omega
        clear hidx3
        obtain ⟨y, hy⟩ : ∃ y, y = b.getD j 0 := ⟨_, rfl⟩
        rw [← hy] at cB
        have HYv : Hid (y = b.getD j 0) := hy
        clear hy
        have hjb1 : (j : Int) < (b.length : Int) := by omega
        have z2 : ((j : Int) == (b.length : Int)) = false := by simp; omega
        have hne : (i == a.length && j == b.length) = false := ne_j hjb
        cases y42 : (y == 42)
        · have hb := on_ofC hjb (by rw [← HYv.out]; exact y42)
          cases vD : B a b (i + 1) j
          · rw [vD] at cD
            cases vR : B a b i (j + 1)
            · rw [vR] at cR
              have HV : Hid (B a b i j = false) := by have e := B_by hne ha hb; rw [vD, vR] at e; exact e
              clear vD vR ha hb hne
              go_enter Trym.func20, Trym.ntmps20
              go_wp2
              go_ret
              exact ⟨ret_boolC HV.out.symm, 0, rfl⟩
            · rw [vR] at cR
              have HV : Hid (B a b i j = true) := by have e := B_by hne ha hb; rw [vD, vR] at e; exact e
              clear vD vR ha hb hne
              go_enter Trym.func20, Trym.ntmps20
              go_wp2
              go_ret
              exact ⟨ret_boolC HV.out.symm, 0, rfl⟩
          · rw [vD] at cD
            have HV : Hid (B a b i j = true) := by have e := B_by hne ha hb; rw [vD] at e; exact e
            clear vD ha hb hne
            go_enter Trym.func20, Trym.ntmps20
            go_wp2
            go_ret
            exact ⟨ret_boolC HV.out.symm, 0, rfl⟩
        · have hb := st_ofC hjb (by rw [← HYv.out]; exact y42)
          cases vD : B a b (i + 1) j
          · rw [vD] at cD
            cases vR : B a b i (j + 1)
            · rw [vR] at cR
              have HV : Hid (B a b i j = false) := by have e := B_by hne ha hb; rw [vD, vR] at e; exact e
              clear vD vR ha hb hne
              go_enter Trym.func20, Trym.ntmps20
              go_wp2
              go_ret
              exact ⟨ret_boolC HV.out.symm, 0, rfl⟩
            · rw [vR] at cR
              have HV : Hid (B a b i j = true) := by have e := B_by hne ha hb; rw [vD, vR] at e; exact e
              clear vD vR ha hb hne
              go_enter Trym.func20, Trym.ntmps20
              go_wp2
              go_ret
              exact ⟨ret_boolC HV.out.symm, 0, rfl⟩
          · rw [vD] at cD
            have HV : Hid (B a b i j = true) := by have e := B_by hne ha hb; rw [vD] at e; exact e
            clear vD ha hb hne
            go_enter Trym.func20, Trym.ntmps20
            go_wp2
            go_ret
            exact ⟨ret_boolC HV.out.symm, 0, rfl⟩
      · have hb := end_ofC hjb
        have hjb2 : decide ((j : Int) < (b.length : Int)) = false := decide_eq_false (by omega)
        have hne : (i == a.length && j == b.length) = false := ne_i hip
        cases vD : B a b (i + 1) j
        · rw [vD] at cD
          have HV : Hid (B a b i j = false) := by have e := B_by hne ha hb; rw [vD] at e; exact e
          clear vD ha hb hne
          go_enter Trym.func20, Trym.ntmps20
          go_wp2
          go_ret
          exact ⟨ret_boolC HV.out.symm, 0, rfl⟩
        · rw [vD] at cD
          have HV : Hid (B a b i j = true) := by have e := B_by hne ha hb; rw [vD] at e; exact e
          clear vD ha hb hne
          go_enter Trym.func20, Trym.ntmps20
          go_wp2
          go_ret
          exact ⟨ret_boolC HV.out.symm, 0, rfl⟩
  · have ha := end_ofC hip
    have hip2 : decide ((i : Int) < (a.length : Int)) = false := decide_eq_false (by omega)
    have z1 : ((i : Int) == (a.length : Int)) = true := by simp; omega
    by_cases hjb : j < b.length
    · have cB := HB.out j hjb
      have cR := HR.out hjb
      have hidx3 : i * wd + (j + 1) < L := by rw [HL.out]; exact idx_le hi (by omega) HW.out
      have bR : (i : Int) * (wd : Int) + (j : Int) + 1 < (L : Int) := by rw [← Int.natCast_mul]; omega
      clear hidx3
      obtain ⟨y, hy⟩ : ∃ y, y = b.getD j 0 := ⟨_, rfl⟩
      rw [← hy] at cB
      have HYv : Hid (y = b.getD j 0) := hy
      clear hy
      have hjb1 : (j : Int) < (b.length : Int) := by omega
      have z2 : ((j : Int) == (b.length : Int)) = false := by simp; omega
      have hne : (i == a.length && j == b.length) = false := ne_j hjb
      cases y42 : (y == 42)
      · have hb := on_ofC hjb (by rw [← HYv.out]; exact y42)
        have HV : Hid (B a b i j = false) := by have e := B_by hne ha hb; exact e
        clear ha hb hne
        go_enter Trym.func20, Trym.ntmps20
        go_wp2
        go_ret
        exact ⟨ret_boolC HV.out.symm, 0, rfl⟩
      · have hb := st_ofC hjb (by rw [← HYv.out]; exact y42)
        cases vR : B a b i (j + 1)
        · rw [vR] at cR
          have HV : Hid (B a b i j = false) := by have e := B_by hne ha hb; rw [vR] at e; exact e
          clear vR ha hb hne
          go_enter Trym.func20, Trym.ntmps20
          go_wp2
          go_ret
          exact ⟨ret_boolC HV.out.symm, 0, rfl⟩
        · rw [vR] at cR
          have HV : Hid (B a b i j = true) := by have e := B_by hne ha hb; rw [vR] at e; exact e
          clear vR ha hb hne
          go_enter Trym.func20, Trym.ntmps20
          go_wp2
          go_ret
          exact ⟨ret_boolC HV.out.symm, 0, rfl⟩
    · have hb := end_ofC hjb
      have hjb2 : decide ((j : Int) < (b.length : Int)) = false := decide_eq_false (by omega)
      have HV : Hid (B a b i j = true) := B_endC hi hj hip hjb
      have z2 : ((j : Int) == (b.length : Int)) = true := by simp; omega
      clear ha hb
      go_enter Trym.func20, Trym.ntmps20
      go_wp2
      go_ret
      exact ⟨ret_boolC HV.out.symm, 0, rfl⟩

end Go.Proofs.Qxb6602057aMods
