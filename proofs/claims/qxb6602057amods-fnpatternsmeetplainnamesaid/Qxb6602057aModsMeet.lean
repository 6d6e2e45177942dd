/- The contract of patternsMeet (function 19) and of the function that hands it on (function 10): the answer is F at the end. -/
import Derived.Test.Qxb6602057aModsMem
import Derived.RegionTactic
import Derived.BigRegion
import Derived.Deep.DeepCutAuto
namespace Go.Proofs.Qxb6602057aMods
open Go.RowKit

theorem ret_bool' {a b : Bool} (h : a = b) : Ending.returned (.bool a) = .returned (.bool b) := by rw [h]
theorem upd_or (R : Nat → Bool) (j k : Nat) : upd R j k = (R k || decide (k = j)) := by
  unfold upd
  by_cases h : k = j
  · simp [h]
  · simp [h]

/-! ### the edges, by where the two patterns stand -/
theorem st_of {a : List Int} {i : Nat} (h : i < a.length) (e : (a.getD i 0 == 42) = true) : stA a i = true ∧ onA a i = false := by
  simp only [stA, onA, e, decide_eq_true h]; exact ⟨rfl, rfl⟩
theorem on_of {a : List Int} {i : Nat} (h : i < a.length) (e : (a.getD i 0 == 42) = false) : stA a i = false ∧ onA a i = true := by
  simp only [stA, onA, e, decide_eq_true h]; exact ⟨rfl, rfl⟩
theorem end_of {a : List Int} {i : Nat} (h : ¬ i < a.length) : stA a i = false ∧ onA a i = false := by
  simp only [stA, onA, decide_eq_false h]; exact ⟨rfl, rfl⟩
theorem edges {a b : List Int} {i j : Nat} {sa oa sb ob : Bool} (ha : stA a i = sa ∧ onA a i = oa) (hb : stA b j = sb ∧ onA b j = ob) :
    eD a b i j = (sa || (sb && oa)) ∧ eR a b i j = (sb || (sa && ob)) ∧ eX a b i j = (oa && ob && mt a b i j) := by
  simp only [eD, eR, eX, ha.1, ha.2, hb.1, hb.2]
  exact ⟨trivial, trivial, trivial⟩

/-- One step of the inner loop, whatever is stored. -/
theorem step_of {a b : List Int} {i j : Nat} {R N : Nat → Bool} {D Rt X : Bool} (h : Inn a b i j R N) (hF : F a b i j = true) (hD : eD a b i j = D) (hR : eR a b i j = Rt) (hX : eX a b i j = X) :
    Inn a b i (j + 1) (fun k => R k || (decide (k = j + 1) && Rt)) (fun k => N k || (decide (k = j) && D) || (decide (k = j + 1) && X)) :=
  inn_step h hF (fun k _ => by rw [hR]) (fun k _ => by rw [hD, hX])
theorem step_DR {a b : List Int} {i j : Nat} {R N : Nat → Bool} (h : Inn a b i j R N) (hF : F a b i j = true) (hD : eD a b i j = true) (hR : eR a b i j = true) (hX : eX a b i j = false) : Inn a b i (j + 1) (upd R (j + 1)) (upd N j) := by
  have := step_of h hF hD hR hX
  have e1 : (fun k => R k || (decide (k = j + 1) && true)) = upd R (j + 1) := by funext k; rw [upd_or]; simp
  have e2 : (fun k => N k || (decide (k = j) && true) || (decide (k = j + 1) && false)) = upd N j := by funext k; rw [upd_or]; simp
  rw [e1, e2] at this; exact this
theorem step_D {a b : List Int} {i j : Nat} {R N : Nat → Bool} (h : Inn a b i j R N) (hF : F a b i j = true) (hD : eD a b i j = true) (hR : eR a b i j = false) (hX : eX a b i j = false) : Inn a b i (j + 1) R (upd N j) := by
  have := step_of h hF hD hR hX
  have e1 : (fun k => R k || (decide (k = j + 1) && false)) = R := by funext k; simp
  have e2 : (fun k => N k || (decide (k = j) && true) || (decide (k = j + 1) && false)) = upd N j := by funext k; rw [upd_or]; simp
  rw [e1, e2] at this; exact this
theorem step_R {a b : List Int} {i j : Nat} {R N : Nat → Bool} (h : Inn a b i j R N) (hF : F a b i j = true) (hD : eD a b i j = false) (hR : eR a b i j = true) (hX : eX a b i j = false) : Inn a b i (j + 1) (upd R (j + 1)) N := by
  have := step_of h hF hD hR hX
  have e1 : (fun k => R k || (decide (k = j + 1) && true)) = upd R (j + 1) := by funext k; rw [upd_or]; simp
  have e2 : (fun k => N k || (decide (k = j) && false) || (decide (k = j + 1) && false)) = N := by funext k; simp
  rw [e1, e2] at this; exact this
theorem step_X {a b : List Int} {i j : Nat} {R N : Nat → Bool} (h : Inn a b i j R N) (hF : F a b i j = true) (hD : eD a b i j = false) (hR : eR a b i j = false) (hX : eX a b i j = true) : Inn a b i (j + 1) R (upd N (j + 1)) := by
  have := step_of h hF hD hR hX
  have e1 : (fun k => R k || (decide (k = j + 1) && false)) = R := by funext k; simp
  have e2 : (fun k => N k || (decide (k = j) && false) || (decide (k = j + 1) && true)) = upd N (j + 1) := by funext k; rw [upd_or]; simp
  rw [e1, e2] at this; exact this
theorem step_0 {a b : List Int} {i j : Nat} {R N : Nat → Bool} (h : Inn a b i j R N) (hF : F a b i j = true) (hD : eD a b i j = false) (hR : eR a b i j = false) (hX : eX a b i j = false) : Inn a b i (j + 1) R N := by
  have := step_of h hF hD hR hX
  have e1 : (fun k => R k || (decide (k = j + 1) && false)) = R := by funext k; simp
  have e2 : (fun k => N k || (decide (k = j) && false) || (decide (k = j + 1) && false)) = N := by funext k; simp
  rw [e1, e2] at this; exact this

set_option maxRecDepth 20000 in
set_option maxHeartbeats 4000000 in
theorem pm_any (p q : ByteArray) (w : World) (hp : p.size ≤ 1024) (hq : q.size ≤ 1024) :
    Calls Trym.prog 19 #[.string p, .string q] w fun e w' => e = .returned (.bool (F (runes p) (runes q) (runes p).length (runes q).length)) ∧ Below w.heap.size w w' := by
  have hla := runes_le p
  have hlb := runes_le q
  obtain ⟨cap, arr, hr, harr⟩ := runes_ex
  have r1 := hr p hp
  have r2 := hr q hq
  clear hr
  have HARR : Hid (∀ s w k, k < (runes s).length → (arr w s)[k]? = some (.int .i32 ((runes s).getD k 0))) := harr
  clear harr
  have mk := run_make ((runes q).length + 1) (by omega)
  have ec : (((runes q).length + 1 : Nat) : Int) = ((runes q).length : Int) + 1 := by omega
  rw [ec] at mk
  clear ec
  go_enter Trym.func19, Trym.ntmps19
  go_upto_region 2 with fail
  go_cut [7, 8] (fun r x wc => ∃ g h : Nat, r = .slice (some ⟨g, 0, none⟩) ((runes q).length + 1) ((runes q).length + 1) ∧ x = .slice (some ⟨h, 0, none⟩) ((runes q).length + 1) ((runes q).length + 1) ∧
      Mem w wc w.heap.size (w.heap.size + 1) g h (runes p) (runes q) (fun _ => false) (fun _ => false))
  case first =>
    go_region
    all_goals
      go_wp2_with fail
      go_meet
      first
        | exact ⟨_, _, rfl, rfl, mem_start w _ _ _ _ (HARR.out p _) (HARR.out q _)⟩
        | exact ⟨_, _, rfl, rfl, (mem_start w _ _ _ _ (HARR.out p _) (HARR.out q _)).swap⟩
  case rest =>
    obtain ⟨g, h, rfl, rfl, mem⟩ := hcut
    have c0 := mem.cr 0 (Nat.zero_le _)
    have f0 := mem.fr 0
    have hlb2 : (runes q).length ≤ 1024 := by omega
    have hla2 : (runes p).length ≤ 1024 := by omega
    clear HARR mk r1 r2 hla hlb hp hq
    go_wp2
    clear c0 f0
    go_loopw [7, 8, 9] (fun r x i wr => ∃ (k g h : Nat) (R N : Nat → Bool), r = .slice (some ⟨g, 0, none⟩) ((runes q).length + 1) ((runes q).length + 1) ∧ x = .slice (some ⟨h, 0, none⟩) ((runes q).length + 1) ((runes q).length + 1) ∧
        i = .int .i64 k ∧ k ≤ (runes p).length ∧ Mem w wr w.heap.size (w.heap.size + 1) g h (runes p) (runes q) R N ∧ Hid (∀ j, j ≤ (runes q).length → R j = P (runes p) (runes q) k j))
      (fun _ _ i _ => (runes p).length - (intOf i).toNat)
    case atStart => exact ⟨0, g, h, _, _, rfl, rfl, rfl, Nat.zero_le _, mem.setR 0 (Nat.zero_le _), fun j _ => by show upd (fun _ => false) 0 j = (j == 0); unfold upd; by_cases e : j = 0 <;> simp [e]⟩
    case round =>
      clear mem
      obtain ⟨i, g2, h2, R0, N0, rfl, rfl, rfl, hi, mem, HR⟩ := hrel
      have clr := fun ty => run_clear wr h2 (runes q).length ty (fun j hj => by rw [mem.cn j (by omega)]; rfl) mem.fn
      have mem2 := mem.clearN
      have hin := inn_start (i := i) HR.out (N := fun _ => false) (fun _ _ => rfl)
      go_wp2
      clear clr
      go_loopw [34] (fun c wr => ∃ (j : Nat) (R N : Nat → Bool), c = .int .i64 j ∧ j ≤ (runes q).length + 1 ∧ Mem w wr w.heap.size (w.heap.size + 1) g2 h2 (runes p) (runes q) R N ∧ Inn (runes p) (runes q) i j R N)
        (fun c _ => (runes q).length + 1 - (intOf c).toNat)
      case atStart => exact ⟨0, _, _, rfl, Nat.zero_le _, mem2, hin⟩
      case round =>
        clear mem mem2 hin HR
        obtain ⟨j, R, N, rfl, hj, mem, inn⟩ := hrel
        have HM : Hid (Mem w wr w.heap.size (w.heap.size + 1) g2 h2 (runes p) (runes q) R N) := mem
        by_cases hjm : j < (runes q).length + 1
        · have hjm2 : j ≤ (runes q).length := by omega
          have cj : wr.cell? ⟨g2, j, none⟩ = some (.bool (R j)) := mem.cr j hjm2
          have hRj := inn_at inn hjm2
          cases hRv : R j
          · have hF : F (runes p) (runes q) i j = false := by rw [← hRj]; exact hRv
            rw [hRv] at cj
            clear hRv hRj mem
            go_wp2
            go_roundw
            case rel => exact ⟨j + 1, R, N, by go_num, by omega, HM.out, inn_skip inn hF⟩
            case measure => simp [intOf]; omega
          · have hF : F (runes p) (runes q) i j = true := by rw [← hRj]; exact hRv
            rw [hRv] at cj
            have nj : wr.cell? ⟨h2, j, none⟩ = some (.bool (N j)) := mem.cn j hjm2
            have fnj := mem.fn j
            have fnj1 := mem.fn (j + 1)
            have frj1 := mem.fr (j + 1)
            have d1 := mem.dag
            have d2 := mem.dah
            have d3 := mem.dbg
            have d4 := mem.dbh
            have d5 := mem.dgh
            have d6 := mem.dgh.symm
            clear hRv hRj
            by_cases hip : i < (runes p).length
            · have cA : wr.cell? ⟨w.heap.size, i, none⟩ = some (.int .i32 ((runes p).getD i 0)) := mem.ca i hip
              obtain ⟨x, hx⟩ : ∃ x, x = (runes p).getD i 0 := ⟨_, rfl⟩
              rw [← hx] at cA
              have HX : Hid (x = (runes p).getD i 0) := hx
              clear hx
              have hip1 : (i : Int) < ((runes p).length : Int) := by omega
              have hip2 : decide ((i : Int) < ((runes p).length : Int)) = true := decide_eq_true hip1
              cases x42 : (x == 42)
              · have ha := on_of hip (by rw [← HX.out]; exact x42)
                by_cases hjb : j < (runes q).length
                · have cB : wr.cell? ⟨w.heap.size + 1, j, none⟩ = some (.int .i32 ((runes q).getD j 0)) := mem.cb j hjb
                  have rj1 : wr.cell? ⟨g2, j + 1, none⟩ = some (.bool (R (j + 1))) := mem.cr (j + 1) (by omega)
                  have nj1 : wr.cell? ⟨h2, j + 1, none⟩ = some (.bool (N (j + 1))) := mem.cn (j + 1) (by omega)
                  obtain ⟨y, hy⟩ : ∃ y, y = (runes q).getD j 0 := ⟨_, rfl⟩
                  rw [← hy] at cB
                  have HY : Hid (y = (runes q).getD j 0) := hy
                  clear hy
                  have hjb1 : (j : Int) < ((runes q).length : Int) := by omega
                  have hjb2 : decide ((j : Int) < ((runes q).length : Int)) = true := decide_eq_true hjb1
                  cases y42 : (y == 42)
                  · have hb := on_of hjb (by rw [← HY.out]; exact y42)
                    cases x63 : (x == 63)
                    · cases y63 : (y == 63)
                      · cases xy : (x == y)
                        · have hmt : mt (runes p) (runes q) i j = false := by simp only [mt, ← HX.out, ← HY.out, x63, y63, xy, Bool.or_self]
                          have eD1 : eD (runes p) (runes q) i j = false := (edges ha hb).1
                          have eR1 : eR (runes p) (runes q) i j = false := (edges ha hb).2.1
                          have eX1 : eX (runes p) (runes q) i j = false := (edges ha hb).2.2.trans hmt
                          have hst := step_0 inn hF eD1 eR1 eX1
                          clear eD1 eR1 eX1 ha hb inn hF mem hmt
                          go_wp2
                          go_quiet (fail)
                          go_wp2
                          go_quiet (fail)
                          go_wp2
                          go_roundw
                          case rel => exact ⟨j + 1, _, _, by go_num, by omega, HM.out.drewN _, hst⟩
                          case measure => simp [intOf]; omega
                        · have hmt : mt (runes p) (runes q) i j = true := by simp only [mt, ← HX.out, ← HY.out, x63, y63, xy, Bool.or_true]
                          have eD1 : eD (runes p) (runes q) i j = false := (edges ha hb).1
                          have eR1 : eR (runes p) (runes q) i j = false := (edges ha hb).2.1
                          have eX1 : eX (runes p) (runes q) i j = true := (edges ha hb).2.2.trans hmt
                          have hst := step_X inn hF eD1 eR1 eX1
                          clear eD1 eR1 eX1 ha hb inn hF mem hmt
                          go_wp2
                          go_quiet (fail)
                          go_wp2
                          go_quiet (fail)
                          go_wp2
                          go_roundw
                          case rel => exact ⟨j + 1, _, _, by go_num, by omega, ((HM.out).setN (j + 1) (by omega)).drewN _, hst⟩
                          case measure => simp [intOf]; omega
                      · have hmt : mt (runes p) (runes q) i j = true := by simp only [mt, ← HX.out, ← HY.out, x63, y63, Bool.or_true, Bool.true_or]
                        have eD1 : eD (runes p) (runes q) i j = false := (edges ha hb).1
                        have eR1 : eR (runes p) (runes q) i j = false := (edges ha hb).2.1
                        have eX1 : eX (runes p) (runes q) i j = true := (edges ha hb).2.2.trans hmt
                        have hst := step_X inn hF eD1 eR1 eX1
                        clear eD1 eR1 eX1 ha hb inn hF mem hmt
                        go_wp2
                        go_quiet (fail)
                        go_wp2
                        go_quiet (fail)
                        go_wp2
                        go_roundw
                        case rel => exact ⟨j + 1, _, _, by go_num, by omega, ((HM.out).setN (j + 1) (by omega)).drewN _, hst⟩
                        case measure => simp [intOf]; omega
                    · have hmt : mt (runes p) (runes q) i j = true := by simp only [mt, ← HX.out, x63, Bool.true_or]
                      have eD1 : eD (runes p) (runes q) i j = false := (edges ha hb).1
                      have eR1 : eR (runes p) (runes q) i j = false := (edges ha hb).2.1
                      have eX1 : eX (runes p) (runes q) i j = true := (edges ha hb).2.2.trans hmt
                      have hst := step_X inn hF eD1 eR1 eX1
                      clear eD1 eR1 eX1 ha hb inn hF mem hmt
                      go_wp2
                      go_quiet (fail)
                      go_wp2
                      go_quiet (fail)
                      go_wp2
                      go_roundw
                      case rel => exact ⟨j + 1, _, _, by go_num, by omega, ((HM.out).setN (j + 1) (by omega)).drewN _, hst⟩
                      case measure => simp [intOf]; omega
                  · have hb := st_of hjb (by rw [← HY.out]; exact y42)
                    have eD1 : eD (runes p) (runes q) i j = true := (edges ha hb).1
                    have eR1 : eR (runes p) (runes q) i j = true := (edges ha hb).2.1
                    have eX1 : eX (runes p) (runes q) i j = false := (edges ha hb).2.2
                    have hst := step_DR inn hF eD1 eR1 eX1
                    clear eD1 eR1 eX1 ha hb inn hF mem
                    go_wp2
                    go_quiet (fail)
                    go_wp2
                    go_quiet (fail)
                    go_wp2
                    go_roundw
                    case rel => exact ⟨j + 1, _, _, by go_num, by omega, ((((HM.out.drewN _).setN j hjm2)).setR (j + 1) (by omega)).drewN _, hst⟩
                    case measure => simp [intOf]; omega
                · have hb := end_of hjb
                  have hjb2 : decide ((j : Int) < ((runes q).length : Int)) = false := decide_eq_false (by omega)
                  have eD1 : eD (runes p) (runes q) i j = false := (edges ha hb).1
                  have eR1 : eR (runes p) (runes q) i j = false := (edges ha hb).2.1
                  have eX1 : eX (runes p) (runes q) i j = false := (edges ha hb).2.2
                  have hst := step_0 inn hF eD1 eR1 eX1
                  clear eD1 eR1 eX1 ha hb inn hF mem
                  go_wp2
                  go_quiet (fail)
                  go_wp2
                  go_quiet (fail)
                  go_wp2
                  go_roundw
                  case rel => exact ⟨j + 1, _, _, by go_num, by omega, HM.out.drewN _, hst⟩
                  case measure => simp [intOf]; omega
              · have ha := st_of hip (by rw [← HX.out]; exact x42)
                by_cases hjb : j < (runes q).length
                · have cB : wr.cell? ⟨w.heap.size + 1, j, none⟩ = some (.int .i32 ((runes q).getD j 0)) := mem.cb j hjb
                  have rj1 : wr.cell? ⟨g2, j + 1, none⟩ = some (.bool (R (j + 1))) := mem.cr (j + 1) (by omega)
                  have nj1 : wr.cell? ⟨h2, j + 1, none⟩ = some (.bool (N (j + 1))) := mem.cn (j + 1) (by omega)
                  obtain ⟨y, hy⟩ : ∃ y, y = (runes q).getD j 0 := ⟨_, rfl⟩
                  rw [← hy] at cB
                  have HY : Hid (y = (runes q).getD j 0) := hy
                  clear hy
                  have hjb1 : (j : Int) < ((runes q).length : Int) := by omega
                  have hjb2 : decide ((j : Int) < ((runes q).length : Int)) = true := decide_eq_true hjb1
                  cases y42 : (y == 42)
                  · have hb := on_of hjb (by rw [← HY.out]; exact y42)
                    have eD1 : eD (runes p) (runes q) i j = true := (edges ha hb).1
                    have eR1 : eR (runes p) (runes q) i j = true := (edges ha hb).2.1
                    have eX1 : eX (runes p) (runes q) i j = false := (edges ha hb).2.2
                    have hst := step_DR inn hF eD1 eR1 eX1
                    clear eD1 eR1 eX1 ha hb inn hF mem
                    go_wp2
                    go_quiet (fail)
                    go_wp2
                    go_quiet (fail)
                    go_wp2
                    go_roundw
                    case rel => exact ⟨j + 1, _, _, by go_num, by omega, ((((HM.out.drewN _).setN j hjm2)).setR (j + 1) (by omega)).drewN _, hst⟩
                    case measure => simp [intOf]; omega
                  · have hb := st_of hjb (by rw [← HY.out]; exact y42)
                    have eD1 : eD (runes p) (runes q) i j = true := (edges ha hb).1
                    have eR1 : eR (runes p) (runes q) i j = true := (edges ha hb).2.1
                    have eX1 : eX (runes p) (runes q) i j = false := (edges ha hb).2.2
                    have hst := step_DR inn hF eD1 eR1 eX1
                    clear eD1 eR1 eX1 ha hb inn hF mem
                    go_wp2
                    go_quiet (fail)
                    go_wp2
                    go_quiet (fail)
                    go_wp2
                    go_roundw
                    case rel => exact ⟨j + 1, _, _, by go_num, by omega, ((((HM.out.drewN _).setN j hjm2)).setR (j + 1) (by omega)).drewN _, hst⟩
                    case measure => simp [intOf]; omega
                · have hb := end_of hjb
                  have hjb2 : decide ((j : Int) < ((runes q).length : Int)) = false := decide_eq_false (by omega)
                  have eD1 : eD (runes p) (runes q) i j = true := (edges ha hb).1
                  have eR1 : eR (runes p) (runes q) i j = false := (edges ha hb).2.1
                  have eX1 : eX (runes p) (runes q) i j = false := (edges ha hb).2.2
                  have hst := step_D inn hF eD1 eR1 eX1
                  clear eD1 eR1 eX1 ha hb inn hF mem
                  go_wp2
                  go_quiet (fail)
                  go_wp2
                  go_quiet (fail)
                  go_wp2
                  go_roundw
                  case rel => exact ⟨j + 1, _, _, by go_num, by omega, ((HM.out.drewN _).setN j hjm2).drewN _, hst⟩
                  case measure => simp [intOf]; omega
            · have ha := end_of hip
              have hip2 : decide ((i : Int) < ((runes p).length : Int)) = false := decide_eq_false (by omega)
              by_cases hjb : j < (runes q).length
              · have cB : wr.cell? ⟨w.heap.size + 1, j, none⟩ = some (.int .i32 ((runes q).getD j 0)) := mem.cb j hjb
                have rj1 : wr.cell? ⟨g2, j + 1, none⟩ = some (.bool (R (j + 1))) := mem.cr (j + 1) (by omega)
                have nj1 : wr.cell? ⟨h2, j + 1, none⟩ = some (.bool (N (j + 1))) := mem.cn (j + 1) (by omega)
                obtain ⟨y, hy⟩ : ∃ y, y = (runes q).getD j 0 := ⟨_, rfl⟩
                rw [← hy] at cB
                have HY : Hid (y = (runes q).getD j 0) := hy
                clear hy
                have hjb1 : (j : Int) < ((runes q).length : Int) := by omega
                have hjb2 : decide ((j : Int) < ((runes q).length : Int)) = true := decide_eq_true hjb1
                cases y42 : (y == 42)
                · have hb := on_of hjb (by rw [← HY.out]; exact y42)
                  have eD1 : eD (runes p) (runes q) i j = false := (edges ha hb).1
                  have eR1 : eR (runes p) (runes q) i j = false := (edges ha hb).2.1
                  have eX1 : eX (runes p) (runes q) i j = false := (edges ha hb).2.2
                  have hst := step_0 inn hF eD1 eR1 eX1
                  clear eD1 eR1 eX1 ha hb inn hF mem
                  go_wp2
                  go_quiet (fail)
                  go_wp2
                  go_quiet (fail)
                  go_wp2
                  go_roundw
                  case rel => exact ⟨j + 1, _, _, by go_num, by omega, HM.out.drewN _, hst⟩
                  case measure => simp [intOf]; omega
                · have hb := st_of hjb (by rw [← HY.out]; exact y42)
                  have eD1 : eD (runes p) (runes q) i j = false := (edges ha hb).1
                  have eR1 : eR (runes p) (runes q) i j = true := (edges ha hb).2.1
                  have eX1 : eX (runes p) (runes q) i j = false := (edges ha hb).2.2
                  have hst := step_R inn hF eD1 eR1 eX1
                  clear eD1 eR1 eX1 ha hb inn hF mem
                  go_wp2
                  go_quiet (fail)
                  go_wp2
                  go_quiet (fail)
                  go_wp2
                  go_roundw
                  case rel => exact ⟨j + 1, _, _, by go_num, by omega, ((HM.out.drewN _).setR (j + 1) (by omega)).drewN _, hst⟩
                  case measure => simp [intOf]; omega
              · have hb := end_of hjb
                have hjb2 : decide ((j : Int) < ((runes q).length : Int)) = false := decide_eq_false (by omega)
                have eD1 : eD (runes p) (runes q) i j = false := (edges ha hb).1
                have eR1 : eR (runes p) (runes q) i j = false := (edges ha hb).2.1
                have eX1 : eX (runes p) (runes q) i j = false := (edges ha hb).2.2
                have hst := step_0 inn hF eD1 eR1 eX1
                clear eD1 eR1 eX1 ha hb inn hF mem
                go_wp2
                go_quiet (fail)
                go_wp2
                go_quiet (fail)
                go_wp2
                go_roundw
                case rel => exact ⟨j + 1, _, _, by go_num, by omega, HM.out.drewN _, hst⟩
                case measure => simp [intOf]; omega
        · have hje : j = (runes q).length + 1 := by omega
          subst hje
          obtain ⟨hRend, hNend⟩ := inn_end inn
          have HRE : Hid (∀ k, k ≤ (runes q).length → R k = F (runes p) (runes q) i k) := hRend
          have HNE : Hid (∀ k, k ≤ (runes q).length → N k = P (runes p) (runes q) (i + 1) k) := hNend
          clear hRend hNend inn
          have cm : wr.cell? ⟨g2, (runes q).length, none⟩ = some (.bool (R (runes q).length)) := mem.cr _ (Nat.le_refl _)
          clear mem
          by_cases hin : i = (runes p).length
          · have e1 : ((i : Int) == ((runes p).length : Int)) = true := by simp; omega
            have HI : Hid (i = (runes p).length) := hin
            clear hin
            go_wp2
            go_ret
            refine ⟨ret_bool' ?_, HM.out.bel⟩
            rw [HRE.out _ (Nat.le_refl _), HI.out]
          · have e1 : ((i : Int) == ((runes p).length : Int)) = false := by simp; omega
            have hi2 : i < (runes p).length := by omega
            clear hin
            go_wp2
            go_roundw
            case rel => exact ⟨i + 1, h2, g2, N, R, rfl, rfl, by go_num, by omega, HM.out.swap, HNE.out⟩
            case measure => simp [intOf]; omega

set_option maxHeartbeats 400000 in
theorem zzpm_any (p q : ByteArray) (w : World) (hp : p.size ≤ 1024) (hq : q.size ≤ 1024) :
    Calls Trym.prog 10 #[.string p, .string q] w fun e w' => e = .returned (.bool (F (runes p) (runes q) (runes p).length (runes q).length)) ∧ Below w.heap.size w w' := by
  go_enter Trym.func10, Trym.ntmps10
  go_wp2_with (go_at_call 19; refine (pm_any p q _ hp hq).mono ?_; rintro e w1 ⟨rfl, hb⟩)
  go_ret
  exact ⟨rfl, hb⟩

end Go.Proofs.Qxb6602057aMods
