/- The contract of zzMeetBySuffixes (function 11): the table of suffixes holds B, and the answer is B at the start. -/
import Derived.Test.Qxb6602057aModsCell
namespace Go.Proofs.Qxb6602057aMods
open Go.RowKit

/-- The table in memory: the cells for which 'done' holds are B's. -/
structure Tab (w wr : World) (ga gb gc L wd : Nat) (a b : List Int) (done : Nat → Nat → Prop) : Prop where
  ca : ∀ k, k < a.length → wr.cell? ⟨ga, k, none⟩ = some (.int .i32 (a.getD k 0))
  cb : ∀ k, k < b.length → wr.cell? ⟨gb, k, none⟩ = some (.int .i32 (b.getD k 0))
  ex : ∀ k, k < L → ∃ v, wr.cell? ⟨gc, k, none⟩ = some (.bool v)
  fz : ∀ k, wr.frozen? ⟨gc, k, none⟩ = false
  val : ∀ i j, i ≤ a.length → j ≤ b.length → done i j → wr.cell? ⟨gc, i * wd + j, none⟩ = some (.bool (B a b i j))
  dag : ga ≠ gc
  dbg : gb ≠ gc
  lo : w.heap.size ≤ gc
  bel : Below w.heap.size w wr

theorem idx_inj {i i' j j' wd : Nat} (h : i * wd + j = i' * wd + j') (hj : j < wd) (hj' : j' < wd) : i = i' ∧ j = j' := by
  have h1 : (i * wd + j) / wd = i := by rw [Nat.mul_comm, Nat.mul_add_div (by omega), Nat.div_eq_of_lt hj]; rfl
  have h2 : (i' * wd + j') / wd = i' := by rw [Nat.mul_comm, Nat.mul_add_div (by omega), Nat.div_eq_of_lt hj']; rfl
  have h3 : i = i' := by rw [← h1, ← h2, h]
  subst h3
  exact ⟨rfl, by omega⟩

theorem Tab.drewN {w wr : World} {ga gb gc L wd : Nat} {a b : List Int} {done : Nat → Nat → Prop} (t : Tab w wr ga gb gc L wd a b done) (q : Nat) : Tab w (wr.drewN q) ga gb gc L wd a b done :=
  ⟨t.ca, t.cb, t.ex, t.fz, t.val, t.dag, t.dbg, t.lo, below_drewN t.bel q⟩

theorem Tab.set {w wr : World} {ga gb gc L wd : Nat} {a b : List Int} {done done' : Nat → Nat → Prop} (t : Tab w wr ga gb gc L wd a b done) (i j : Nat) (hj : j ≤ b.length) (hw : wd = b.length + 1) (hidx : i * wd + j < L)
    (hd : ∀ i' j', done' i' j' → done i' j' ∨ (i' = i ∧ j' = j)) : Tab w (wr.setCell ⟨gc, i * wd + j, none⟩ (.bool (B a b i j))) ga gb gc L wd a b done' := by
  obtain ⟨v, hv⟩ := t.ex _ hidx
  refine ⟨fun k hk => ?_, fun k hk => ?_, fun k hk => ?_, fun k => ?_, fun i' j' hi' hj' hd' => ?_, t.dag, t.dbg, t.lo, t.bel.setCell t.lo _⟩
  · rw [World.cell?_setCell_other _ _ _ _ (by intro e; injection e with e1; exact t.dag e1.symm)]; exact t.ca k hk
  · rw [World.cell?_setCell_other _ _ _ _ (by intro e; injection e with e1; exact t.dbg e1.symm)]; exact t.cb k hk
  · by_cases e : k = i * wd + j
    · subst e; exact ⟨_, World.cell?_setCell_same _ _ _ hv⟩
    · rw [World.cell?_setCell_other _ _ _ _ (by intro e2; injection e2 with _ e3; exact e e3.symm)]; exact t.ex k hk
  · rw [World.frozen?_setCell]; exact t.fz k
  · by_cases e : i' = i ∧ j' = j
    · obtain ⟨rfl, rfl⟩ := e
      exact World.cell?_setCell_same _ _ _ hv
    · have hne : ¬ i * wd + j = i' * wd + j' := fun h => by
        have := idx_inj h (by omega) (by omega)
        exact e ⟨this.1.symm, this.2.symm⟩
      rw [World.cell?_setCell_other _ _ _ _ (by intro e2; injection e2 with _ e3; exact hne e3)]
      rcases hd i' j' hd' with h | h
      · exact t.val i' j' hi' hj' h
      · exact absurd h e

theorem Tab.weak {w wr : World} {ga gb gc L wd : Nat} {a b : List Int} {done done' : Nat → Nat → Prop} (t : Tab w wr ga gb gc L wd a b done) (hd : ∀ i j, i ≤ a.length → j ≤ b.length → done' i j → done i j) : Tab w wr ga gb gc L wd a b done' :=
  ⟨t.ca, t.cb, t.ex, t.fz, fun i j hi hj h => t.val i j hi hj (hd i j hi hj h), t.dag, t.dbg, t.lo, t.bel⟩

theorem tab_start (w : World) (a b : List Int) (ga gb L wd : Nat) (hga : ga < w.heap.size) (hgb : gb < w.heap.size)
    (hca : ∀ k, k < a.length → w.cell? ⟨ga, k, none⟩ = some (.int .i32 (a.getD k 0))) (hcb : ∀ k, k < b.length → w.cell? ⟨gb, k, none⟩ = some (.int .i32 (b.getD k 0)))
    (done : Nat → Nat → Prop) (hd : ∀ i j, i ≤ a.length → ¬ done i j) :
    Tab w (w.alloc (.cells (madeCells #[.bool false] L) 4)) ga gb w.heap.size L wd a b done := by
  refine ⟨fun k hk => ?_, fun k hk => ?_, fun k hk => ⟨false, ?_⟩, fun k => ?_, fun i j hi _ h => absurd h (hd i j hi), by omega, by omega, Nat.le_refl _, (Below.refl _ w).alloc (Nat.le_refl _) _⟩
  · rw [World.cell?_alloc_past _ _ _ hga]; exact hca k hk
  · rw [World.cell?_alloc_past _ _ _ hgb]; exact hcb k hk
  · rw [World.cell?_alloc_at _ _ _ _ rfl]; exact made_at _ _ hk
  · rw [frozen?_alloc_cells]; exact frozen_beyond w _ k (Nat.le_refl _)

set_option maxHeartbeats 2000000 in
theorem table_any (a b : List Int) (ga gb ca cb : Nat) (w : World) (ha1 : a.length ≤ 1024) (hb1 : b.length ≤ 1024) (hga : ga < w.heap.size) (hgb : gb < w.heap.size)
    (hca : ∀ k, k < a.length → w.cell? ⟨ga, k, none⟩ = some (.int .i32 (a.getD k 0)))
    (hcb : ∀ k, k < b.length → w.cell? ⟨gb, k, none⟩ = some (.int .i32 (b.getD k 0))) :
    Calls Trym.prog 11 #[.slice (some ⟨ga, 0, none⟩) a.length ca, .slice (some ⟨gb, 0, none⟩) b.length cb] w fun e w' => e = .returned (.bool (B a b 0 0)) ∧ Below w.heap.size w w' := by
  obtain ⟨wd, hwd⟩ : ∃ wd, wd = b.length + 1 := ⟨_, rfl⟩
  obtain ⟨L, hL⟩ : ∃ L, L = (a.length + 1) * wd := ⟨_, rfl⟩
  have ew : (b.length : Int) + 1 = (wd : Int) := by omega
  have eL : ((a.length : Int) + 1) * (wd : Int) = (L : Int) := by rw [mul_cast, ← hL]
  have hwd2 : wd ≤ 1025 := by omega
  have hLb : L ≤ 1050625 := by
    rw [hL]
    have h1 : (a.length + 1) * wd ≤ 1025 * 1025 := Nat.mul_le_mul (by omega) hwd2
    omega
  have hL0 : 0 < L := by rw [hL]; exact Nat.mul_pos (by omega) (by omega)
  have mk := run_make L (by omega)
  have HT : Hid (Tab w (w.alloc (.cells (madeCells #[.bool false] L) 4)) ga gb w.heap.size L wd a b (fun i _ => (a.length : Int) < (i : Int))) :=
    tab_start w a b ga gb L wd hga hgb hca hcb _ (fun i j hi => by omega)
  have HW : Hid (wd = b.length + 1) := hwd
  have HL : Hid (L = (a.length + 1) * wd) := hL
  clear hwd hL hca hcb
  go_enter Trym.func11, Trym.ntmps11
  go_wp2
  clear ew eL mk
  go_loopw [9] (fun iv wr => ∃ z : Int, iv = .int .i64 z ∧ -1 ≤ z ∧ z ≤ a.length ∧ Hid (Tab w wr ga gb w.heap.size L wd a b (fun i _ => z < (i : Int)))) (fun iv _ => (intOf iv + 1).toNat)
  case atStart => exact ⟨a.length, rfl, by omega, by omega, HT⟩
  case round =>
    clear HT
    obtain ⟨z, rfl, hz1, hz2, HI⟩ := hrel
    by_cases h0 : 0 ≤ z
    · obtain ⟨i, rfl⟩ := Int.eq_ofNat_of_zero_le h0
      have hi : i ≤ a.length := by omega
      go_wp2
      go_loopw [10] (fun jv wr => ∃ y : Int, jv = .int .i64 y ∧ -1 ≤ y ∧ y ≤ b.length ∧ Hid (Tab w wr ga gb w.heap.size L wd a b (fun i' j' => (i : Int) < (i' : Int) ∨ (i' = i ∧ y < (j' : Int))))) (fun jv _ => (intOf jv + 1).toNat)
      case atStart =>
        refine ⟨b.length, rfl, by omega, by omega, HI.out.weak (fun i' j' _ hj h => ?_)⟩
        rcases h with h | h
        · exact h
        · omega
      case round =>
        clear HI
        obtain ⟨y, rfl, hy1, hy2, HJ⟩ := hrel
        by_cases h1 : 0 ≤ y
        · obtain ⟨j, rfl⟩ := Int.eq_ofNat_of_zero_le h1
          have hj : j ≤ b.length := by omega
          have hidx : i * wd + j < L := by rw [HL.out]; exact idx_le hi hj HW.out
          have bI0 : (0 : Int) ≤ (i : Int) * (wd : Int) := by rw [← Int.natCast_mul]; omega
          have bI1 : (i : Int) * (wd : Int) + (j : Int) < (L : Int) := by rw [← Int.natCast_mul]; omega
          obtain ⟨v, cE⟩ := HJ.out.ex _ hidx
          have fE := HJ.out.fz (i * wd + j)
          go_wp2_with fail
          refine (cell_any a b ga gb w.heap.size ca cb L L wd i j _ ha1 hb1 hi hj HW.out HL.out HJ.out.ca HJ.out.cb (fun h => HJ.out.val (i + 1) j (by omega) hj (.inl (by omega))) (fun h => HJ.out.val i (j + 1) hi (by omega) (.inr ⟨rfl, by omega⟩)) (fun h h' => HJ.out.val (i + 1) (j + 1) (by omega) (by omega) (.inl (by omega)))).mono ?_
          rintro e w1 ⟨rfl, nq, rfl⟩
          go_wp2
          go_roundw
          case rel =>
            refine ⟨(j : Int) - 1, rfl, by omega, by omega, ?_⟩
            refine (HJ.out.drewN nq).set i j hj HW.out hidx (fun i' j' h => ?_)
            rcases h with h | h
            · exact .inl (.inl h)
            · by_cases e : j' = j
              · exact .inr ⟨h.1, e⟩
              · exact .inl (.inr ⟨h.1, by omega⟩)
          case measure => simp [intOf]
        · go_wp2
          go_roundw
          case rel =>
            refine ⟨(i : Int) - 1, rfl, by omega, by omega, HJ.out.weak (fun i' j' _ _ h => ?_)⟩
            by_cases e : i' = i
            · exact .inr ⟨e, by omega⟩
            · exact .inl (by omega)
          case measure => simp [intOf]
    · have c00 : wr.cell? ⟨w.heap.size, 0, none⟩ = some (.bool (B a b 0 0)) := by
        have h := HI.out.val 0 0 (Nat.zero_le _) (Nat.zero_le _) (by omega)
        rw [Nat.zero_mul, Nat.zero_add] at h
        exact h
      have hL1 : (0 : Int) < (L : Int) := by omega
      go_wp2
      go_ret
      exact ⟨rfl, HI.out.bel⟩

end Go.Proofs.Qxb6602057aMods
