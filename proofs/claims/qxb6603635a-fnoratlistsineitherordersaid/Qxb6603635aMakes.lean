import Derived.Test.Qxb6603635aReads2
import Derived.Deep.RegionWith
import Derived.Deep.RegionHeld3
namespace Go.Proofs.Qxb6603635a.Or
open Go.RowKit Go.Deep

theorem info43 : (Try.prog.info? 43).map (fun i => (i.zero, i.size, i.bytes)) = some (some (.agg #[.int .u64 0, .int .u64 0]), 2, 16) := by kernel_rfl
theorem info57 : (Try.prog.info? 57).map (fun i => (i.zero, i.size, i.bytes)) = some (some (.agg #[.int .i64 0, .int .u64 0]), 2, 16) := by kernel_rfl
theorem info3 : (Try.prog.info? 3).map (fun i => (i.zero, i.size, i.bytes)) = some (some (.int .i64 0), 1, 8) := by kernel_rfl

/-- The cells of a row of pairs. -/
def pairF (X Y : Nat → Value) (j : Nat) : Value := if j % 2 = 0 then X (j / 2) else Y (j / 2)

theorem run_make_pair (P : Program) (t e : TypeId) (z0 z1 : Value) (ht : P.underlying t = some (.slice e)) (hinfo : (P.info? e).map (fun i => (i.zero, i.size, i.bytes)) = some (some (.agg #[z0, z1]), 2, 16))
    (n : Nat) (hn : n ≤ 1048576) (w : World) :
    (Instr.makeSlice t (.int .i64 (n : Int)) (.int .i64 (n : Int))).run P w = .ok (.slice (some ⟨w.heap.size, 0, none⟩) n n) (w.alloc (.cells (madeCells #[z0, z1] (n * 2)) e)) := by
  obtain ⟨i, hi, hzz⟩ := Option.map_eq_some_iff.1 hinfo
  simp only [Prod.mk.injEq] at hzz
  obtain ⟨hz, hs, hb⟩ := hzz
  have := run_make (P := P) w t e i (.agg #[z0, z1]) ht hi hz .i64 .i64 n n (by omega) (Int.le_refl _) (by rw [hb]; omega) (by omega)
  rw [hs] at this
  simpa [Value.cells] using this

theorem rowIs_pair (w : World) (z0 z1 : Value) (n : Nat) (t : TypeId) : (w.alloc (.cells (madeCells #[z0, z1] (n * 2)) t)).rowIs w.heap.size t (n * 2) (pairF (fun _ => z0) (fun _ => z1)) := by
  refine ⟨_, blk_alloc_new _ _, size_madeCells _ _, fun i hi => ?_⟩
  simp only [madeCells, pairF]
  rcases Nat.mod_two_eq_zero_or_one i with h | h <;> simp [hi, h]

theorem newRun_any (f k : Int) (w : World) :
    Calls Try.prog 18 #[.int .u64 f, .int .u64 k] w fun e w' => e = .returned (.agg #[.int .u64 f, .int .u64 k]) ∧ w' = w.alloc (.cells #[.int .u64 f, .int .u64 k] 43) := by
  go_enter Try.func18, Try.ntmps18
  go_wp2
  exact bodyPost_ret (v := .agg #[.int .u64 f, .int .u64 k]) (by simp [results, Try.results18, go_sem]) rfl ⟨rfl, rfl⟩
theorem newBlock_any (f k : Int) (w : World) :
    Calls Try.prog 20 #[.int .i64 f, .int .u64 k] w fun e w' => e = .returned (.agg #[.int .i64 f, .int .u64 k]) ∧ w' = w.alloc (.cells #[.int .i64 f, .int .u64 k] 57) := by
  go_enter Try.func20, Try.ntmps20
  go_wp2
  exact bodyPost_ret (v := .agg #[.int .i64 f, .int .u64 k]) (by simp [results, Try.results20, go_sem]) rfl ⟨rfl, rfl⟩

theorem pair_step {X Y f : Nat → Value} {k : Nat} (hf : ∀ j, j < k * 2 → f j = pairF X Y j) (j : Nat) (hj : j < (k + 1) * 2) :
    (if j = k * 2 + 1 then Y k else if j = k * 2 then X k else f j) = pairF X Y j := by
  by_cases h1 : j = k * 2 + 1
  · subst h1
    have e1 : (k * 2 + 1) % 2 = 1 := by omega
    have e2 : (k * 2 + 1) / 2 = k := by omega
    simp [pairF, e1, e2]
  · by_cases h2 : j = k * 2
    · subst h2
      have e2 : (k * 2) / 2 = k := by omega
      simp [pairF, e2]
    · rw [if_neg h1, if_neg h2]
      exact hf j (by omega)

set_option maxHeartbeats 800000 in
theorem runs_any (a : Option Addr) (b off n cap : Nat) (F K : Nat → Nat) (w : World) (hr : PairRow w a b off n (fun i => .int .u64 (F i : Nat)) (fun i => .int .u64 (K i : Nat))) (hn : n ≤ 1048576) (hb : 0 < n → b < w.heap.size) :
    Calls Try.prog 9 #[.slice a n cap] w fun e w' => e = .returned (.slice (some ⟨w.heap.size, 0, none⟩) n n) ∧ Below w.heap.size w w' ∧
      w'.rowIs w.heap.size 43 (n * 2) (pairF (fun i => .int .u64 (F i : Nat)) (fun i => .int .u64 (K i : Nat))) := by
  obtain ⟨ha, hc⟩ := hr
  have hmk := run_make_pair Try.prog 29 43 (.int .u64 0) (.int .u64 0) Try.underlying29 info43 n hn
  go_enter Try.func9, Try.ntmps9
  go_wp2
  go_loopw [4] (fun i wr => ∃ k : Nat, k ≤ n ∧ i = .int .i64 k ∧ Below w.heap.size w wr ∧ ∃ f, wr.rowIs w.heap.size 43 (n * 2) f ∧ ∀ j, j < k * 2 → f j = pairF (fun i => .int .u64 (F i : Nat)) (fun i => .int .u64 (K i : Nat)) j) (fun i _ => n - (intOf i).toNat)
  case atStart => exact ⟨0, Nat.zero_le _, rfl, (Below.refl _ _).alloc (Nat.le_refl _) _, _, rowIs_pair _ _ _ _ _, fun j h => by omega⟩
  case round =>
    obtain ⟨k, hk, rfl, hbel, f, hrow, hf⟩ := hrel
    by_cases hlt : k < n
    · obtain rfl := ha (by omega)
      have hb' := hb (by omega)
      have g1 := (hbel.cell (p := ⟨b, off + k * 2, none⟩) hb').trans (hc k hlt).1
      have g2 := (hbel.cell (p := ⟨b, off + k * 2 + 1, none⟩) hb').trans (hc k hlt).2
      have s1 := hrow.frozen (k * 2)
      have s2 := hrow.frozen (k * 2 + 1)
      have c1 := hrow.cell (i := k * 2) (by omega)
      have c2 := hrow.cell (i := k * 2 + 1) (by omega)
      have hsz := hrow.lt
      have HF : Hid (∀ j, j < k * 2 → f j = pairF (fun i => .int .u64 (F i : Nat)) (fun i => .int .u64 (K i : Nat)) j) := hf
      clear hc hf hb
      go_wp2
      go_region_with (go_at_call 18; refine (newRun_any _ _ _).mono ?_; rintro e w' ⟨rfl, rfl⟩)
      all_goals go_wp2
      all_goals
        go_roundw
        case rel => exact ⟨k + 1, by omega, by go_num, (((hbel.setCell (Nat.le_refl _) _).setCell (Nat.le_refl _) _).alloc (by simp [World.setCell]; omega) _).drew, _, (((hrow.set _ _).set _ _).alloc _).drew, pair_step HF.out⟩
        case measure => simp [intOf]; omega
    · clear hc
      go_wp2
      go_ret
      have : k = n := by omega
      subst this
      exact ⟨rfl, hbel, hrow.congr hf⟩

set_option maxHeartbeats 800000 in
theorem blocks_any (a : Option Addr) (b off n cap : Nat) (F : Nat → Int) (K : Nat → Nat) (w : World) (hr : PairRow w a b off n (fun i => .int .i64 (F i)) (fun i => .int .u64 (K i : Nat))) (hn : n ≤ 1048576) (hb : 0 < n → b < w.heap.size) :
    Calls Try.prog 13 #[.slice a n cap] w fun e w' => e = .returned (.slice (some ⟨w.heap.size, 0, none⟩) n n) ∧ Below w.heap.size w w' ∧
      w'.rowIs w.heap.size 57 (n * 2) (pairF (fun i => .int .i64 (F i)) (fun i => .int .u64 (K i : Nat))) := by
  obtain ⟨ha, hc⟩ := hr
  have hmk := run_make_pair Try.prog 35 57 (.int .i64 0) (.int .u64 0) Try.underlying35 info57 n hn
  go_enter Try.func13, Try.ntmps13
  go_wp2
  go_loopw [4] (fun i wr => ∃ k : Nat, k ≤ n ∧ i = .int .i64 k ∧ Below w.heap.size w wr ∧ ∃ f, wr.rowIs w.heap.size 57 (n * 2) f ∧ ∀ j, j < k * 2 → f j = pairF (fun i => .int .i64 (F i)) (fun i => .int .u64 (K i : Nat)) j) (fun i _ => n - (intOf i).toNat)
  case atStart => exact ⟨0, Nat.zero_le _, rfl, (Below.refl _ _).alloc (Nat.le_refl _) _, _, rowIs_pair _ _ _ _ _, fun j h => by omega⟩
  case round =>
    obtain ⟨k, hk, rfl, hbel, f, hrow, hf⟩ := hrel
    by_cases hlt : k < n
    · obtain rfl := ha (by omega)
      have hb' := hb (by omega)
      have g1 := (hbel.cell (p := ⟨b, off + k * 2, none⟩) hb').trans (hc k hlt).1
      have g2 := (hbel.cell (p := ⟨b, off + k * 2 + 1, none⟩) hb').trans (hc k hlt).2
      have s1 := hrow.frozen (k * 2)
      have s2 := hrow.frozen (k * 2 + 1)
      have c1 := hrow.cell (i := k * 2) (by omega)
      have c2 := hrow.cell (i := k * 2 + 1) (by omega)
      have hsz := hrow.lt
      have HF : Hid (∀ j, j < k * 2 → f j = pairF (fun i => .int .i64 (F i)) (fun i => .int .u64 (K i : Nat)) j) := hf
      clear hc hf hb
      go_wp2
      go_region_with (go_at_call 20; refine (newBlock_any _ _ _).mono ?_; rintro e w' ⟨rfl, rfl⟩)
      all_goals go_wp2
      all_goals
        go_roundw
        case rel => exact ⟨k + 1, by omega, by go_num, (((hbel.setCell (Nat.le_refl _) _).setCell (Nat.le_refl _) _).alloc (by simp [World.setCell]; omega) _).drew, _, (((hrow.set _ _).set _ _).alloc _).drew, pair_step HF.out⟩
        case measure => simp [intOf]; omega
    · clear hc
      go_wp2
      go_ret
      have : k = n := by omega
      subst this
      exact ⟨rfl, hbel, hrow.congr hf⟩

/-- ZZnewFinding. -/
theorem newFinding_any (r t : Value) (w : World) (hr : ∃ a n c, r = .slice a n c) (ht : ∃ a n c, t = .slice a n c) :
    Calls Try.prog 10 #[r, t] w fun e w' => e = .returned (.pointer (some ⟨w.heap.size, 0, none⟩)) ∧ w' = w.alloc (.cells #[r, t, .slice none 0 0, .slice none 0 0] 54) := by
  obtain ⟨a, n, c, rfl⟩ := hr
  obtain ⟨a', n', c', rfl⟩ := ht
  go_enter Try.func10, Try.ntmps10
  go_wp2
  go_ret
  exact ⟨rfl, rfl⟩
end Go.Proofs.Qxb6603635a.Or
