import Derived.Test.Qxb6603613aRows
import Derived.WalkKit
import Derived.WalkSpells
import Derived.Deep.OwnRows
import Derived.Deep.QuietTactic
import Derived.BigQuiet
import Derived.Below
namespace Go.Proofs.Qxb6603613a.Dec
open Go.RowKit Go.Deep

theorem below_drewN {B : Nat} {a w : World} (h : Below B a w) (n : Nat) : Below B a (w.drewN n) := h.trans ⟨rfl, rfl, rfl, Nat.le_refl _, fun _ _ => rfl⟩
theorem info5 : (Try.prog.info? 5).map (fun i => (i.zero, i.size, i.bytes)) = some (some (.int .u8 0), 1, 1) := by kernel_rfl

/-- zzBytes_..: a length within the bound: true. -/
theorem bytes_yes (a : Option Addr) (len cap : Nat) (h : len ≤ 1048576) (w : World) :
    Calls Try.prog 7 #[.slice a len cap] w fun e w' => e = .returned (.bool true) ∧ w' = w := by
  go_enter Try.func7, Try.ntmps7
  go_wp2
  go_ret
  exact ⟨rfl, rfl⟩

theorem bytes_no (a : Option Addr) (len cap : Nat) (h : 1048576 < len) (w : World) :
    Calls Try.prog 7 #[.slice a len cap] w fun e w' => e = .returned (.bool false) ∧ w' = w := by
  go_enter Try.func7, Try.ntmps7
  go_wp2
  go_ret
  exact ⟨rfl, rfl⟩

theorem clone_nil (w : World) :
    Calls Try.prog 8 #[.slice none 0 0] w fun e w' => e = .returned (.slice none 0 0) ∧ w' = w := by
  have q := fun (w : World) (a : Option Addr) (n c : Nat) => Lib.run_eql_slice_nil (P := Try.prog) w 27 5 a n c 0 0 Try.underlying27
  go_enter Try.func8, Try.ntmps8
  go_wp2
  go_ret
  exact ⟨rfl, rfl⟩

set_option maxHeartbeats 400000 in
theorem clone_empty (x : Addr) (cap : Nat) (w : World) :
    Calls Try.prog 8 #[.slice (some x) 0 cap] w fun e w' => e = .returned (.slice (some ⟨w.heap.size, 0, none⟩) 0 0) ∧ Below w.heap.size w w' ∧ w.heap.size < w'.heap.size := by
  have q := fun (w : World) (a : Option Addr) (n c : Nat) => Lib.run_eql_slice_nil (P := Try.prog) w 27 5 a n c 0 0 Try.underlying27
  have hmk : ∀ w : World, (Instr.makeSlice 27 (.int .i64 0) (.int .i64 0)).run Try.prog w = .ok (.slice (some ⟨w.heap.size, 0, none⟩) 0 0) (w.alloc (.cells (madeCells #[.int .u8 0] 0) 5)) :=
    fun w => run_make_row' (P := Try.prog) 27 5 (.int .u8 0) 1 Try.underlying27 info5 rfl .i64 .i64 0 (by omega) (by omega) w
  go_enter Try.func8, Try.ntmps8
  go_wp2
  refine wp_loop_rounds 1 ?_; rw [rounds_succ]
  go_wp2
  go_ret
  exact ⟨rfl, (Below.refl _ _).alloc (Nat.le_refl _) _, by simp⟩

set_option maxHeartbeats 400000 in
theorem clone_some (b off len cap : Nat) (zs : List Int) (w : World) (h : len ≤ 1048576) (hz : len ≤ zs.length) (hb : b < w.heap.size)
    (hc : ∀ i, i < zs.length → w.cell? ⟨b, off + i, none⟩ = some (.int .u8 (zs.getD i 0))) :
    Calls Try.prog 8 #[.slice (some ⟨b, off, none⟩) len cap] w fun e w' => e = .returned (.slice (some ⟨w.heap.size, 0, none⟩) len len) ∧ Below w.heap.size w w' ∧ w.heap.size < w'.heap.size := by
  have q := fun (w : World) (a : Option Addr) (n c : Nat) => Lib.run_eql_slice_nil (P := Try.prog) w 27 5 a n c 0 0 Try.underlying27
  have hmk := run_make_row' (P := Try.prog) 27 5 (.int .u8 0) 1 Try.underlying27 info5 rfl .i64 .i64 len (by omega) (by omega)
  go_enter Try.func8, Try.ntmps8
  go_wp2
  go_loopw [4] (fun i wr => ∃ k : Nat, k ≤ len ∧ i = .int .i64 k ∧ Below w.heap.size w wr ∧ ∃ f, wr.rowIs w.heap.size 5 len f) (fun i _ => len - (intOf i).toNat)
  case atStart => exact ⟨0, Nat.zero_le _, rfl, (Below.refl _ _).alloc (Nat.le_refl _) _, _, World.rowIs_made _ _ _ _⟩
  case round =>
    obtain ⟨k, hk, rfl, hbel, f, hrow⟩ := hrel
    by_cases hlt : k < len
    · have g := (hbel.cell (p := ⟨b, off + k, none⟩) hb).trans (hc k (by omega))
      have g2 := hrow.cell hlt
      have g3 := hrow.frozen k
      go_wp2
      go_roundw
      case rel => exact ⟨k + 1, by omega, by go_num, hbel.setCell (Nat.le_refl _) _, _, hrow.set _ _⟩
      case measure => simp [intOf]; omega
    · have hkl : k = len := by omega
      have g := hrow.lt
      go_wp2
      go_ret
      exact ⟨rfl, hbel, hrow.lt⟩

/-- newOptions(nil): the defaults. -/
def optCells : Array Value := #[.slice none 0 0, .int .i64 1000, .int .i64 10000000, .int .i64 268435456, .int .i64 1800000000]
theorem opts_nil (w : World) :
    Calls Try.prog 19 #[.slice none 0 0] w fun e w' => e = .returned (.agg #[.slice none 0 0, .int .i64 1000, .int .i64 10000000, .int .i64 268435456, .int .i64 1800000000]) ∧
      w' = (w.alloc (.cells #[.slice none 0 0, .int .i64 1000, .int .i64 10000000, .int .i64 268435456, .int .i64 1800000000] 85)).alloc (.cells #[.slice none 0 0, .int .i64 1000, .int .i64 10000000, .int .i64 268435456, .int .i64 1800000000] 85) := by
  go_enter Try.func19, Try.ntmps19
  go_wp2
  refine wp_loop_rounds 1 ?_; rw [rounds_succ]
  go_wp2
  exact bodyPost_ret (v := .agg #[.slice none 0 0, .int .i64 1000, .int .i64 10000000, .int .i64 268435456, .int .i64 1800000000]) (by simp [results, Try.results19, go_sem]) rfl ⟨rfl, rfl⟩

/-- (*bytes.Reader).Len of a reader at its start. -/
theorem len_any (b : Nat) (a : Option Addr) (len cap : Nat) (w : World) (hl : len ≤ 1048576) (h0 : w.cell? ⟨b, 0, none⟩ = some (.slice a len cap)) (h1 : w.cell? ⟨b, 1, none⟩ = some (.int .i64 0)) :
    Calls Try.prog 17 #[.pointer (some ⟨b, 0, none⟩)] w fun e w' => e = .returned (.int .i64 len) ∧ ∃ n, w' = w.drewN n := by
  by_cases hz : 0 < len
  · have hz' : ¬ ((len : Int) ≤ 0) := by omega
    go_enter Try.func17, Try.ntmps17
    go_wp2
    go_quiet (fail)
    go_wp2
    go_quiet (fail)
    go_wp2
    go_ret
    exact ⟨rfl, _, World.drewN_drewN _ _ _⟩
  · have hz' : len = 0 := by omega
    subst hz'
    go_enter Try.func17, Try.ntmps17
    go_wp2
    go_quiet (fail)
    go_wp2
    go_ret
    exact ⟨rfl, _, rfl⟩


def decCells (r : Nat) : Array Value := #[.iface 50 (.pointer (some ⟨r, 0, none⟩)), .nilIface, .nilIface, .slice none 0 0, .int .i64 0, .int .i64 0, .int .i64 0, .int .i64 0, .bool false, .slice none 0 0, .int .i64 0, .slice none 0 0,
  .int .i64 0, .slice none 0 0, .int .i64 0, .int .i64 0, .int .i64 268435456]

set_option maxHeartbeats 400000 in
theorem onbytes (a : Option Addr) (len cap : Nat) (h : len ≤ 1048576) (w : World) :
    Calls Try.prog 9 #[.slice a len cap] w fun e w' => ∃ r d : Nat, e = .returned (.tuple #[.pointer (some ⟨d, 0, none⟩), .int .i64 len]) ∧ Below w.heap.size w w' ∧ w'.heap[d]? = some (.cells (decCells r) 67 (0, 0)) := by
  go_enter Try.func9, Try.ntmps9
  go_wp2_with (first
    | (go_at_call 19; refine (opts_nil _).mono ?_; rintro e w' ⟨rfl, rfl⟩)
    | (go_at_call 17; refine (len_any w.heap.size a len cap _ h ?_ ?_).mono ?_; · simp [go_sem]
       · simp [go_sem]
       rintro e w' ⟨rfl, nq, rfl⟩)
    | (go_at_call 15; go_in) | (go_at_call 16; go_in))
  go_ret2
  refine ⟨w.heap.size, w.heap.size + 1 + 1 + 1 + 1, rfl, ?_, ?_⟩
  · exact below_drewN ((((((Below.refl _ _).alloc (Nat.le_refl _) _).alloc (by simp) _).alloc (by simp; omega) _).alloc (by simp; omega) _).alloc (by simp; omega) _) _
  · show (World.alloc _ _).heap[_]? = _
    refine Eq.trans (congrArg _ ?_) (heap_alloc_new _ _)
    simp

theorem state_any (d r : Nat) (w : World) (h : w.heap[d]? = some (.cells (decCells r) 67 (0, 0))) :
    Calls Try.prog 10 #[.pointer (some ⟨d, 0, none⟩)] w fun e w' => e = .returned (.tuple #[.int .i64 268435456, .int .i64 0, .int .i64 0, .int .i64 0, .bool true, .bool true]) ∧ ∃ n, w' = w.drewN n := by
  have c16 : w.cell? ⟨d, 16, none⟩ = some (.int .i64 268435456) := by simp [World.cell?, h, decCells]
  have c4 : w.cell? ⟨d, 4, none⟩ = some (.int .i64 0) := by simp [World.cell?, h, decCells]
  have c5 : w.cell? ⟨d, 5, none⟩ = some (.int .i64 0) := by simp [World.cell?, h, decCells]
  have c3 : w.cell? ⟨d, 3, none⟩ = some (.slice none 0 0) := by simp [World.cell?, h, decCells]
  have c2 : w.cell? ⟨d, 2, none⟩ = some .nilIface := by simp [World.cell?, h, decCells]
  have c1 : w.cell? ⟨d, 1, none⟩ = some .nilIface := by simp [World.cell?, h, decCells]
  clear h
  go_enter Try.func10, Try.ntmps10
  go_wp2
  go_quiet (fail)
  go_wp2
  exact bodyPost_ret (v := .tuple #[.int .i64 268435456, .int .i64 0, .int .i64 0, .int .i64 0, .bool true, .bool true]) (by simp [results, Try.results10, go_sem]) rfl ⟨rfl, _, rfl⟩

/-- The law behind the clone: whatever the clone gave. -/
theorem law_long (a : Option Addr) (len cap : Nat) (h : 1048576 < len) (w : World) :
    Calls Try.prog 4 #[.slice a len cap] w fun e w' => e = .returned (.bool true) ∧ Below w.heap.size w w' := by
  go_enter Try.func4, Try.ntmps4
  go_wp2_with (go_at_call 7; refine (bytes_no a len cap h _).mono ?_; rintro e w' ⟨rfl, rfl⟩)
  go_ret
  exact ⟨rfl, Below.refl _ _⟩

set_option maxHeartbeats 400000 in
theorem law_of (a a' : Option Addr) (len cap cap' : Nat) (h : len ≤ 1048576) (w : World)
    (hc : Calls Try.prog 8 #[.slice a len cap] w fun e w' => e = .returned (.slice a' len cap') ∧ Below w.heap.size w w') :
    Calls Try.prog 4 #[.slice a len cap] w fun e w' => e = .returned (.bool true) ∧ Below w.heap.size w w' := by
  have HC : Hid (Calls Try.prog 8 #[.slice a len cap] w fun e w' => e = .returned (.slice a' len cap') ∧ Below w.heap.size w w') := hc
  clear hc
  go_enter Try.func4, Try.ntmps4
  go_wp2_with (first
    | (go_at_call 7; refine (bytes_yes a len cap h _).mono ?_; rintro e w' ⟨rfl, rfl⟩)
    | (go_at_call 8; refine (HC.out).mono ?_; rintro e w1 ⟨rfl, hb1⟩)
    | (go_at_call 9; refine (onbytes a' len cap' h _).mono ?_; rintro e w2 ⟨r, d, rfl, hb2, hd⟩)
    | (go_at_call 10; refine (state_any d r _ hd).mono ?_; rintro e w3 ⟨rfl, nq, rfl⟩))
  go_ret
  exact ⟨rfl, below_drewN (hb1.trans (hb2.mono hb1.size)) _⟩
end Go.Proofs.Qxb6603613a.Dec
