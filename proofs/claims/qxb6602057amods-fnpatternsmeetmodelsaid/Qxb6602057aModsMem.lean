/- '[]rune(s)' as a list of runes; 'make([]bool, n)'; the memory of patternsMeet: two rows of runes that are read, two rows of bools that are written. -/
import Derived.Test.Qxb6602057aModsRows
import Derived.Test.Qxb6602057aModsPlain
import Derived.WalkKit
import Derived.WalkSpells
import Derived.WalkLawsBesides
import Derived.BigQuiet
import Derived.Deep.QuietTactic
import Derived.Deep.OwnRows
import Derived.Laws.IdiomStrings
import Derived.Lib.SliceRun
import Derived.Lib.LazyBuf
namespace Go.Proofs.Qxb6602057aMods
open Go.RowKit

/-! ### runes -/
def runesL (s : ByteArray) : Nat → Nat → List Int
  | 0, _ => []
  | bound + 1, i => if i < s.size then Int.ofNat (Utf8.decode s i).1 :: runesL s bound (i + (Utf8.decode s i).2) else []
def runes (s : ByteArray) : List Int := runesL s s.size 0

theorem runesFrom_eq (s : ByteArray) : ∀ (bound i : Nat) (ac : Array Value), Conv.runesFrom s bound i ac = ac ++ ((runesL s bound i).map (Value.int .i32)).toArray
  | 0, _, ac => by simp [Conv.runesFrom, runesL]
  | bound + 1, i, ac => by
    unfold Conv.runesFrom runesL
    split
    · rename_i h
      show Conv.runesFrom s bound (i + (Utf8.decode s i).2) (ac.push (.int .i32 (Int.ofNat (Utf8.decode s i).1))) = _
      rw [runesFrom_eq s bound]
      simp
    · simp

theorem runesFrom_runes (s : ByteArray) : Conv.runesFrom s s.size 0 #[] = ((runes s).map (Value.int .i32)).toArray := by
  rw [runesFrom_eq]; simp [runes]

theorem runes_size (s : ByteArray) : (Conv.runesFrom s s.size 0 #[]).size = (runes s).length := by
  rw [runesFrom_runes]; simp

theorem runes_le (s : ByteArray) : (runes s).length ≤ s.size := by
  have := size_runesFrom s s.size 0 #[]
  rw [runes_size] at this
  simpa using this

def capR (w : World) (s : ByteArray) : Nat := grownCap w (runes s).length 0 21
def arrR (w : World) (s : ByteArray) : Array Value := ((runes s).map (Value.int .i32)).toArray ++ Array.replicate (capR w s - (runes s).length) (.int .i32 0)

theorem run_runes (s : ByteArray) (hs : s.size ≤ 1024) (w : World) :
    (convert 9 24 (.string s)).run Trym.prog w = .ok (.slice (some ⟨w.heap.size, 0, none⟩) (runes s).length (capR w s)) (w.alloc (.cells (arrR w s) 21)).drew := by
  have hl := runes_le s
  have h := run_runes_of_string (P := Trym.prog) w 9 24 21 s Trym.underlying9 Trym.underlying24 Trym.underlying21 (by rw [runes_size]; omega)
  rw [h, runes_size, runesFrom_runes]
  rfl

theorem arrR_at (w : World) (s : ByteArray) (k : Nat) (hk : k < (runes s).length) : (arrR w s)[k]? = some (.int .i32 ((runes s).getD k 0)) := by
  unfold arrR
  rw [Array.getElem?_append_left (by simpa using hk)]
  simp [List.getD, List.getElem?_eq_getElem hk]

/-- The runes lie in the new block. -/
theorem runes_at (w w0 : World) (s : ByteArray) (k : Nat) (hk : k < (runes s).length) : (w.alloc (.cells (arrR w0 s) 21)).cell? ⟨w.heap.size, k, none⟩ = some (.int .i32 ((runes s).getD k 0)) := by
  rw [World.cell?_alloc_mark w (arrR w0 s) 21 (0, 0) k]
  exact arrR_at w0 s k hk

/-! ### 'make([]bool, n)' -/
theorem info4 : (Trym.prog.info? 4).map (fun i => (i.zero, i.size, i.bytes)) = some (some (.bool false), 1, 1) := by kernel_rfl

theorem made_at (n k : Nat) (h : k < n) : (madeCells #[.bool false] n)[k]? = some (.bool false) := by
  rw [← Array.getElem?_toList, toList_madeCells_one]
  simp [h]

theorem run_make (n : Nat) (hn : n ≤ 2000000) (w : World) :
    (Instr.makeSlice 29 (.int .i64 (n : Int)) (.int .i64 (n : Int))).run Trym.prog w = .ok (.slice (some ⟨w.heap.size, 0, none⟩) n n) (w.alloc (.cells (madeCells #[.bool false] n) 4)) :=
  run_make_row' 29 4 (.bool false) 1 Trym.underlying29 info4 rfl .i64 .i64 n (by omega) (by omega) w

/-! ### the memory of patternsMeet -/
structure Mem (w wr : World) (ga gb g h : Nat) (a b : List Int) (R N : Nat → Bool) : Prop where
  ca : ∀ k, k < a.length → wr.cell? ⟨ga, k, none⟩ = some (.int .i32 (a.getD k 0))
  cb : ∀ k, k < b.length → wr.cell? ⟨gb, k, none⟩ = some (.int .i32 (b.getD k 0))
  cr : ∀ k, k ≤ b.length → wr.cell? ⟨g, k, none⟩ = some (.bool (R k))
  cn : ∀ k, k ≤ b.length → wr.cell? ⟨h, k, none⟩ = some (.bool (N k))
  fr : ∀ k, wr.frozen? ⟨g, k, none⟩ = false
  fn : ∀ k, wr.frozen? ⟨h, k, none⟩ = false
  dag : ga ≠ g
  dah : ga ≠ h
  dbg : gb ≠ g
  dbh : gb ≠ h
  dgh : g ≠ h
  lg : w.heap.size ≤ g
  lh : w.heap.size ≤ h
  bel : Below w.heap.size w wr

theorem cell_other (w : World) (g h k j : Nat) (v : Value) (d : g ≠ h) : (w.setCell ⟨h, j, none⟩ v).cell? ⟨g, k, none⟩ = w.cell? ⟨g, k, none⟩ :=
  World.cell?_setCell_other _ _ _ _ (by intro e; injection e with e1; exact d e1.symm)

theorem Mem.swap {w wr : World} {ga gb g h : Nat} {a b : List Int} {R N : Nat → Bool} (m : Mem w wr ga gb g h a b R N) : Mem w wr ga gb h g a b N R :=
  ⟨m.ca, m.cb, m.cn, m.cr, m.fn, m.fr, m.dah, m.dag, m.dbh, m.dbg, m.dgh.symm, m.lh, m.lg, m.bel⟩

theorem Mem.drewN {w wr : World} {ga gb g h : Nat} {a b : List Int} {R N : Nat → Bool} (m : Mem w wr ga gb g h a b R N) (q : Nat) : Mem w (wr.drewN q) ga gb g h a b R N :=
  ⟨m.ca, m.cb, m.cr, m.cn, m.fr, m.fn, m.dag, m.dah, m.dbg, m.dbh, m.dgh, m.lg, m.lh, below_drewN m.bel q⟩

theorem Mem.setR {w wr : World} {ga gb g h : Nat} {a b : List Int} {R N : Nat → Bool} (m : Mem w wr ga gb g h a b R N) (j : Nat) (hj : j ≤ b.length) :
    Mem w (wr.setCell ⟨g, j, none⟩ (.bool true)) ga gb g h a b (upd R j) N := by
  refine ⟨fun k hk => ?_, fun k hk => ?_, fun k hk => ?_, fun k hk => ?_, fun k => ?_, fun k => ?_, m.dag, m.dah, m.dbg, m.dbh, m.dgh, m.lg, m.lh, m.bel.setCell m.lg _⟩
  · rw [cell_other _ _ _ _ _ _ m.dag]; exact m.ca k hk
  · rw [cell_other _ _ _ _ _ _ m.dbg]; exact m.cb k hk
  · unfold upd
    by_cases e : k = j
    · subst e; rw [if_pos rfl]; exact World.cell?_setCell_same _ _ _ (m.cr k hk)
    · rw [if_neg e, World.cell?_setCell_other _ _ _ _ (by intro e2; injection e2 with _ e3; exact e e3.symm)]; exact m.cr k hk
  · rw [cell_other _ _ _ _ _ _ m.dgh.symm]; exact m.cn k hk
  · rw [World.frozen?_setCell]; exact m.fr k
  · rw [World.frozen?_setCell]; exact m.fn k

theorem Mem.setN {w wr : World} {ga gb g h : Nat} {a b : List Int} {R N : Nat → Bool} (m : Mem w wr ga gb g h a b R N) (j : Nat) (hj : j ≤ b.length) :
    Mem w (wr.setCell ⟨h, j, none⟩ (.bool true)) ga gb g h a b R (upd N j) := (m.swap.setR j hj).swap

theorem Mem.clearN {w wr : World} {ga gb g h : Nat} {a b : List Int} {R N : Nat → Bool} (m : Mem w wr ga gb g h a b R N) :
    Mem w (wr.setCells h 0 (List.replicate (b.length + 1) (.bool false))) ga gb g h a b R (fun _ => false) := by
  have out : ∀ x k, x ≠ h → (wr.setCells h 0 (List.replicate (b.length + 1) (.bool false))).cell? ⟨x, k, none⟩ = wr.cell? ⟨x, k, none⟩ :=
    fun x k d => World.cell?_setCells_out h _ 0 wr ⟨x, k, none⟩ (fun e => absurd e d)
  refine ⟨fun k hk => ?_, fun k hk => ?_, fun k hk => ?_, fun k hk => ?_, fun k => ?_, fun k => ?_, m.dag, m.dah, m.dbg, m.dbh, m.dgh, m.lg, m.lh, ?_⟩
  · rw [out _ _ m.dah]; exact m.ca k hk
  · rw [out _ _ m.dbh]; exact m.cb k hk
  · rw [out _ _ m.dgh]; exact m.cr k hk
  · have := World.cell?_setCells_in h (List.replicate (b.length + 1) (.bool false)) 0 wr (fun j hj => by rw [Nat.zero_add, m.cn j (by simp at hj; omega)]; rfl) k (by simp; omega)
    rw [Nat.zero_add] at this
    rw [this]; simp
  · rw [World.frozen?_setCells]; exact m.fr k
  · rw [World.frozen?_setCells]; exact m.fn k
  · exact below_setCells m.lh _ 0 wr m.bel

/-! ### the start of patternsMeet: the capacities and the new rows' spare room are the tape's: hidden behind letters -/
theorem runes_ex : ∃ (cap : World → ByteArray → Nat) (arr : World → ByteArray → Array Value),
    (∀ s : ByteArray, s.size ≤ 1024 → ∀ w : World, (convert 9 24 (.string s)).run Trym.prog w = .ok (.slice (some ⟨w.heap.size, 0, none⟩) (runes s).length (cap w s)) (w.alloc (.cells (arr w s) 21)).drew) ∧
    (∀ s w k, k < (runes s).length → (arr w s)[k]? = some (.int .i32 ((runes s).getD k 0))) :=
  ⟨capR, arrR, fun s hs w => run_runes s hs w, fun s w k hk => arrR_at w s k hk⟩

theorem frozen_beyond (w : World) (n k : Nat) (h : w.heap.size ≤ n) : w.frozen? ⟨n, k, none⟩ = false := by
  unfold World.frozen?
  rw [Array.getElem?_eq_none h]

theorem mem_start (w : World) (a b : List Int) (A1 A2 : Array Value) (h1 : ∀ k, k < a.length → A1[k]? = some (.int .i32 (a.getD k 0))) (h2 : ∀ k, k < b.length → A2[k]? = some (.int .i32 (b.getD k 0))) :
    Mem w ((((w.alloc (.cells A1 21)).alloc (.cells A2 21)).alloc (.cells (madeCells #[.bool false] (b.length + 1)) 4)).alloc (.cells (madeCells #[.bool false] (b.length + 1)) 4)).drew.drew.drew
      w.heap.size (w.heap.size + 1) (w.heap.size + 1 + 1) (w.heap.size + 1 + 1 + 1) a b (fun _ => false) (fun _ => false) := by
  refine ⟨fun k hk => ?_, fun k hk => ?_, fun k hk => ?_, fun k hk => ?_, fun k => ?_, fun k => ?_, by omega, by omega, by omega, by omega, by omega, by omega, by omega, ?_⟩
  · simp only [World.cell?_drew]
    rw [World.cell?_alloc_past _ _ _ (by simp; omega), World.cell?_alloc_past _ _ _ (by simp; omega), World.cell?_alloc_past _ _ _ (by simp), World.cell?_alloc_at _ _ _ _ rfl]
    exact h1 k hk
  · simp only [World.cell?_drew]
    rw [World.cell?_alloc_past _ _ _ (by simp), World.cell?_alloc_past _ _ _ (by simp), World.cell?_alloc_at _ _ _ _ (by simp)]
    exact h2 k hk
  · simp only [World.cell?_drew]
    rw [World.cell?_alloc_past _ _ _ (by simp), World.cell?_alloc_at _ _ _ _ (by simp)]
    exact made_at _ _ (by omega)
  · simp only [World.cell?_drew]
    rw [World.cell?_alloc_at _ _ _ _ (by simp)]
    exact made_at _ _ (by omega)
  · show ((((w.alloc (.cells A1 21)).alloc (.cells A2 21)).alloc (.cells (madeCells #[.bool false] (b.length + 1)) 4)).alloc (.cells (madeCells #[.bool false] (b.length + 1)) 4)).frozen? _ = false
    rw [frozen?_alloc_cells, frozen?_alloc_cells, frozen?_alloc_cells, frozen?_alloc_cells]
    exact frozen_beyond w _ k (by omega)
  · show ((((w.alloc (.cells A1 21)).alloc (.cells A2 21)).alloc (.cells (madeCells #[.bool false] (b.length + 1)) 4)).alloc (.cells (madeCells #[.bool false] (b.length + 1)) 4)).frozen? _ = false
    rw [frozen?_alloc_cells, frozen?_alloc_cells, frozen?_alloc_cells, frozen?_alloc_cells]
    exact frozen_beyond w _ k (by omega)
  · exact (((((((Below.refl _ w).alloc (Nat.le_refl _) _).alloc (by simp) _).alloc (by simp; omega) _).alloc (by simp; omega) _).drew).drew).drew

theorem zero4 : ∀ w, (zeroValue 4).run Trym.prog w = .ok (.bool false) w := fun _ => by kernel_rfl

theorem run_clear (w : World) (h n ty : Nat) (hc : ∀ j, j < n + 1 → (w.cell? ⟨h, j, none⟩).isSome = true) (hf : ∀ j, w.frozen? ⟨h, j, none⟩ = false) :
    (Builtin.clear_ #[29] ty #[.slice (some ⟨h, 0, none⟩) (n + 1) (n + 1)]).run Trym.prog w = .ok (.tuple #[]) (w.setCells h 0 (List.replicate (n + 1) (.bool false))) :=
  Lib.run_clear_slice w 29 4 ty (.bool false) Trym.underlying29 zero4 rfl rfl h 0 (n + 1) (n + 1) (by omega) (by simpa using hc) (by simpa using fun j _ => hf j)

end Go.Proofs.Qxb6602057aMods
