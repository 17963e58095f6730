import Derived.Test.Qxb6603635aOrAt
import Derived.BigRegion
namespace Go.Proofs.Qxb6603635a.Or
open Go.RowKit Go.Deep
set_option linter.unusedVariables false

set_option maxHeartbeats 1600000 in
/-- orAt where the list is walked. -/
theorem orAt_walk (fb rb ab lb n l m : Nat) (W A : Nat → Int) (B F K : Nat → Nat) (w : World) (L : Int) (hL0 : 0 ≤ L) (hL1 : L ≤ 512) (hlen : ∀ w : World, Calls Try.prog 21 #[.int .u64 (l : Int)] w fun e w' => e = .returned (.int .i64 L) ∧ w' = w)
    (hge : (l : Int) ≤ (m : Int) * L) (hn : n ≤ 1048576) (hl : l ≤ 1048576) (hm : m ≤ 1048576)
    (hf0 : w.cell? ⟨fb, 0, none⟩ = some (.slice (some ⟨rb, 0, none⟩) n n)) (hf1 : w.cell? ⟨fb, 1, none⟩ = some (.slice (some ⟨ab, 0, none⟩) m m)) (hfb : fb < w.heap.size)
    (hrun : w.rowIs rb 43 (n * 2) (pairF (fun i => .int .u64 (F i : Nat)) (fun i => .int .u64 (K i : Nat))))
    (hlist : w.rowIs lb 57 (l * 2) (pairF (fun i => .int .i64 (W i)) (fun i => .int .u64 (B i : Nat))))
    (hrf : rb ≠ fb) (hrl : rb ≠ lb) (hW : LOk W l n) (hFO : FOk A m F n)
    (hF : ∀ i, F i < 18446744073709551616) (hK : ∀ i, K i < 18446744073709551616) (hB : ∀ i, B i < 18446744073709551616) :
    Calls Try.prog 19 #[.pointer (some ⟨fb, 0, none⟩), .slice (some ⟨lb, 0, none⟩) l l] w (OrEnd rb n l m W A B F K w) := by
  have HL : Hid (∀ w : World, Calls Try.prog 21 #[.int .u64 (l : Int)] w fun e w' => e = .returned (.int .i64 L) ∧ w' = w) := hlen
  have hLm : (m : Int) * L ≤ 536870912 := by
    have h1 : (m : Int) * L ≤ (m : Int) * 512 := Int.mul_le_mul_of_nonneg_left hL1 (by omega)
    omega
  have hLm0 : 0 ≤ (m : Int) * L := Int.mul_nonneg (by omega) hL0
  clear hlen
  have HF : Hid (∀ i, F i < 18446744073709551616) := hF
  have HK : Hid (∀ i, K i < 18446744073709551616) := hK
  have HB : Hid (∀ i, B i < 18446744073709551616) := hB
  clear hF hK hB
  go_enter Try.func19, Try.ntmps19
  go_wp2
  go_quiet ((go_at_call 21; exact Calls.quiet_of_same (HL.out _)))
  go_wp2
  go_loopw [31] (fun i wr => ∃ k : Nat, k ≤ l ∧ i = .int .i64 k ∧ ∃ Kk : Nat → Nat, Hid (Walked W B F K Kk k) ∧ Hid (∀ i, Kk i < 18446744073709551616) ∧ w.grownBy wr (some rb) ∧
      wr.rowIs rb 43 (n * 2) (pairF (fun i => .int .u64 (F i : Nat)) (fun i => .int .u64 (Kk i : Nat)))) (fun i _ => l - (intOf i).toNat)
  case atStart => exact ⟨0, Nat.zero_le _, rfl, K, Walked.zero W B F K, HK, grown_drewN (grown_refl _ _) _, hrun⟩
  case round =>
    obtain ⟨k, hk, rfl, Kk, hwk, hlt64, hgr, hrow⟩ := hrel
    by_cases hlt : k < l
    · obtain ⟨p, hp⟩ := Int.eq_ofNat_of_zero_le (hW k hlt).1
      have hpn : p < n := by have := (hW k hlt).2.1; omega
      have hpn' : (p : Int) < (n : Int) := by omega
      have hlb := hlist.lt
      have hlc := pair_cells hlist hlt
      have g1 := (grown_cell hgr (a := ⟨lb, k * 2, none⟩) hlb (by simp; omega)).trans hlc.1
      have g2 := (grown_cell hgr (a := ⟨lb, k * 2 + 1, none⟩) hlb (by simp; omega)).trans hlc.2
      simp only [hp] at g1
      have HP : Hid (W k = (p : Int)) := hp
      have hrc := pair_cells hrow hpn
      have r1 := hrc.1
      have r2 := hrc.2
      have r3 := hrow.frozen (p * 2 + 1)
      have hrs := hrow.lt
      obtain ⟨z, hz⟩ : ∃ z, z = B k &&& F p := ⟨_, rfl⟩
      obtain ⟨y, hy⟩ : ∃ y, y = Kk p ||| z := ⟨_, rfl⟩
      have e1 : bits .and .u64 (B k : Int) (F p : Int) = (z : Int) := by rw [hz]; exact u64_and_nat _ _ (HB.out k) (HF.out p)
      have hz64 : z < 18446744073709551616 := by rw [hz]; exact and_lt (HB.out k)
      have e2 : bits .or .u64 (Kk p : Int) (z : Int) = (y : Int) := by rw [hy]; exact u64_or_nat _ _ (hlt64.out p) hz64
      have hy64 : y < 18446744073709551616 := by rw [hy]; exact or_lt (hlt64.out p) hz64
      have HY : Hid (y = Kk p ||| (B k &&& F p)) := by rw [← hz]; exact hy
      have HY64 : Hid (y < 18446744073709551616) := hy64
      clear hy hz hp hlc hrc hz64 hy64
      go_wp2
      go_region
      go_wp2
      go_roundw
      case rel => exact ⟨k + 1, by omega, by go_num, fun i => if i = p then y else Kk i, hwk.out.step hW hlt HP.out HY.out, upd_lt hlt64.out HY64.out p, grown_drew (grown_alloc (grown_set hgr _ _) _), ((pair_set hrow p y).alloc _).drew⟩
      case measure => simp [intOf]; omega
    · go_wp2
      go_end0
      obtain rfl : k = l := by omega
      exact ⟨rfl, Kk, hrow, fun i add hi ha => hwk.out.good hFO i add hi ha, hlt64.out, hgr⟩
end Go.Proofs.Qxb6603635a.Or
