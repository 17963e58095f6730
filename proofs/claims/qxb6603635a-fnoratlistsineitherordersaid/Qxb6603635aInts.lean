import Derived.Test.Qxb6603635aMakes
import Derived.Laws.CopyOwn
namespace Go.Proofs.Qxb6603635a.Or
open Go.RowKit Go.Deep

theorem size3 : (Try.prog.info? 3).map (·.size) = some 1 := by kernel_rfl

def intCells (A : Nat → Int) (m : Nat) : List Value := (List.range m).map fun i => .int .i64 (A i)
theorem intCells_length (A : Nat → Int) (m : Nat) : (intCells A m).length = m := by simp [intCells]
theorem intCells_get (A : Nat → Int) (m j : Nat) (v : Value) (h : (intCells A m)[j]? = some v) : j < m ∧ v = .int .i64 (A j) := by
  simp only [intCells, List.getElem?_map, Option.map_eq_some_iff] at h
  obtain ⟨x, hx, rfl⟩ := h
  obtain ⟨h1, h2⟩ := List.getElem?_eq_some_iff.1 hx
  simp at h1 h2
  subst h2
  exact ⟨h1, rfl⟩

theorem ints_end {w' : World} {g m : Nat} {A : Nat → Int} {cur : List Value} (hc : cur.length = m) (h : w'.heap[g]? = some (.cells (splice cur 0 (intCells A m)).toArray 3 (0, 0))) :
    w'.rowIs g 3 m (fun i => .int .i64 (A i)) := by
  have e : splice cur 0 (intCells A m) = intCells A m := by
    simp [splice, intCells_length, ← hc]
  rw [e] at h
  refine ⟨_, h, by simp [intCells_length], fun i hi => ?_⟩
  simp [intCells, hi]

/-- The copy: whatever the source's address where it is empty. -/
theorem copy_run (a : Option Addr) (b off m cap : Nat) (A : Nat → Int) (w : World) (hr : IntRow w a b off m A) (hb : 0 < m → b < w.heap.size) :
    ∃ W2 : World, (Builtin.copy_ #[23, 23] 3 #[.slice (some ⟨w.heap.size, 0, none⟩) m m, .slice a m cap]).run Try.prog (w.alloc (.cells (madeCells #[.int .i64 0] m) 3)) = .ok (.int .i64 (m : Int)) W2 ∧
      Below w.heap.size w W2 ∧ w.heap.size < W2.heap.size ∧ W2.rowIs w.heap.size 3 m (fun i => .int .i64 (A i)) := by
  obtain ⟨ha, hc⟩ := hr
  by_cases h0 : m = 0
  · subst h0
    exact ⟨_, run_copy_none (P := Try.prog) _ 23 23 3 3 (some ⟨w.heap.size, 0, none⟩) a 0 0 0 cap Try.underlying23 size3 rfl, (Below.refl _ _).alloc (Nat.le_refl _) _, by simp, _, blk_alloc_new _ _, size_madeCells _ _, fun i hi => by omega⟩
  · obtain rfl := ha (by omega)
    have hg : (w.alloc (.cells (madeCells #[.int .i64 0] m) 3)).heap[w.heap.size]? = some (.cells (madeCells #[.int .i64 0] m) 3 (0, 0)) := blk_alloc_new _ _
    have hrun := run_copy_row (P := Try.prog) (w.alloc (.cells (madeCells #[.int .i64 0] m) 3)) 23 23 3 3 w.heap.size 0 m m ⟨b, off, none⟩ m cap (madeCells #[.int .i64 0] m) 3 (intCells A m) Try.underlying23 size3 hg
      (by rw [intCells_length]; exact (Nat.min_self m).symm)
      (fun j v hj => by
        obtain ⟨hj', rfl⟩ := intCells_get A m j v hj
        have hadd : (Addr.add ⟨b, off, none⟩ j : Addr) = ⟨b, off + j, none⟩ := by simp [Addr.add]
        rw [hadd, World.cell?_alloc_lt _ _ _ (by exact hb (by omega))]
        exact hc j hj')
      (by simp [intCells_length, size_madeCells])
      (by
        intro v hv
        simp only [intCells, List.mem_map] at hv
        obtain ⟨i, _, rfl⟩ := hv
        rfl)
    rw [intCells_length] at hrun
    refine ⟨_, hrun, below_setRow ((Below.refl _ _).alloc (Nat.le_refl _) _) (Nat.le_refl _) _, by simp [World.setRow], ?_⟩
    refine ints_end (cur := (madeCells #[.int .i64 0] m).toList) (by simp [size_madeCells]) ?_
    simpa [splice, intCells_length] using setRow_heap (w.alloc (.cells (madeCells #[.int .i64 0] m) 3)) w.heap.size _ _ 3 _ hg

theorem ints_any (a : Option Addr) (b off m cap : Nat) (A : Nat → Int) (w : World) (hr : IntRow w a b off m A) (hm : m ≤ 1048576) (hb : 0 < m → b < w.heap.size) :
    Calls Try.prog 11 #[.slice a m cap] w fun e w' => e = .returned (.slice (some ⟨w.heap.size, 0, none⟩) m m) ∧ Below w.heap.size w w' ∧ w'.rowIs w.heap.size 3 m (fun i => .int .i64 (A i)) := by
  obtain ⟨W2, hcp, hbel, hlt, hrow⟩ := copy_run a b off m cap A w hr hb
  have hmk := run_make_row' (P := Try.prog) 23 3 (.int .i64 0) 8 Try.underlying23 info3 rfl .i64 .i64 m (by omega) (by omega)
  clear hr
  go_enter Try.func11, Try.ntmps11
  go_wp2
  go_ret
  exact ⟨rfl, hbel, hrow⟩
end Go.Proofs.Qxb6603635a.Or
