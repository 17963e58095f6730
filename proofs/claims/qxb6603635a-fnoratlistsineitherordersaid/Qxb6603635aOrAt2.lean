import Derived.Test.Qxb6603635aOrAt1
namespace Go.Proofs.Qxb6603635a.Or
open Go.RowKit Go.Deep
set_option linter.unusedVariables false

set_option maxHeartbeats 1600000 in
/-- orAt where each run found is searched for. -/
theorem orAt_search (fb rb ab lb n l m : Nat) (W A : Nat → Int) (B F K : Nat → Nat) (w : World) (L : Int) (hL0 : 0 ≤ L) (hL1 : L ≤ 512) (hlen : ∀ w : World, Calls Try.prog 21 #[.int .u64 (l : Int)] w fun e w' => e = .returned (.int .i64 L) ∧ w' = w)
    (hge : (m : Int) * L < (l : Int)) (hn : n ≤ 1048576) (hl : l ≤ 1048576) (hm : m ≤ 1048576)
    (hf0 : w.cell? ⟨fb, 0, none⟩ = some (.slice (some ⟨rb, 0, none⟩) n n)) (hf1 : w.cell? ⟨fb, 1, none⟩ = some (.slice (some ⟨ab, 0, none⟩) m m)) (hfb : fb < w.heap.size)
    (hrun : w.rowIs rb 43 (n * 2) (pairF (fun i => .int .u64 (F i : Nat)) (fun i => .int .u64 (K i : Nat))))
    (hat : w.rowIs ab 3 m (fun i => .int .i64 (A i)))
    (hlist : w.rowIs lb 57 (l * 2) (pairF (fun i => .int .i64 (W i)) (fun i => .int .u64 (B i : Nat))))
    (hrf : rb ≠ fb) (hrl : rb ≠ lb) (hra : rb ≠ ab) (hW : LOk W l n) (hA : LOk A m n) (hFO : FOk A m F n)
    (hF : ∀ i, F i < 18446744073709551616) (hK : ∀ i, K i < 18446744073709551616) (hB : ∀ i, B i < 18446744073709551616) :
    Calls Try.prog 19 #[.pointer (some ⟨fb, 0, none⟩), .slice (some ⟨lb, 0, none⟩) l l] w (OrEnd rb n l m W A B F K w) := by
  have HL : Hid (∀ w : World, Calls Try.prog 21 #[.int .u64 (l : Int)] w fun e w' => e = .returned (.int .i64 L) ∧ w' = w) := hlen
  have hLm : (m : Int) * L ≤ 536870912 := by
    have h1 : (m : Int) * L ≤ (m : Int) * 512 := Int.mul_le_mul_of_nonneg_left hL1 (by omega)
    omega
  have hLm0 : 0 ≤ (m : Int) * L := Int.mul_nonneg (by omega) hL0
  clear hlen
  have HF : Hid (∀ i, F i < 18446744073709551616) := hF
  have HK : Hid (∀ i, K i < 18446744073709551616) := hK
  have HB : Hid (∀ i, B i < 18446744073709551616) := hB
  clear hF hK hB
  go_enter Try.func19, Try.ntmps19
  go_wp2
  go_quiet ((go_at_call 21; exact Calls.quiet_of_same (HL.out _)))
  go_wp2
  go_loopw [59] (fun i wr => ∃ k : Nat, k ≤ m ∧ i = .int .i64 k ∧ ∃ Kk : Nat → Nat, Hid (Sought W A B K Kk l k) ∧ Hid (∀ i, Kk i < 18446744073709551616) ∧ w.grownBy wr (some rb) ∧
      wr.rowIs rb 43 (n * 2) (pairF (fun i => .int .u64 (F i : Nat)) (fun i => .int .u64 (Kk i : Nat)))) (fun i _ => m - (intOf i).toNat)
  case atStart => exact ⟨0, Nat.zero_le _, rfl, K, Sought.zero W A B K l, HK, grown_drewN (grown_refl _ _) _, hrun⟩
  case round =>
    obtain ⟨k, hk, rfl, Kk, hwk, hlt64, hgr, hrow⟩ := hrel
    by_cases hlt : k < m
    · obtain ⟨p, hp⟩ := Int.eq_ofNat_of_zero_le (hA k hlt).1
      have hpn : p < n := by have := (hA k hlt).2.1; omega
      have hpn' : (p : Int) < (n : Int) := by omega
      have g1 := (grown_cell hgr (a := ⟨ab, k, none⟩) hat.lt (by simp; omega)).trans (hat.cell hlt)
      simp only [hp] at g1
      have HP : Hid (A k = (p : Int)) := hp
      have hrow2 := grown_row hgr hlist (by simp; omega)
      clear hp
      go_wp2_with fail
      refine (search_any lb l n W B (p : Int) _ hl hW hrow2).mono ?_
      rintro e w2 ⟨i, ok, rfl, hyes, hno, hbel⟩
      have hgr2 := grown_below hgr hbel
      have hrow' := below_row hbel hrow
      cases ok with
      | true =>
        obtain ⟨hil, hWi⟩ := hyes rfl
        have HI : Hid (W i = (p : Int)) := hWi
        have hil' : (i : Int) < (l : Int) := by omega
        have f0 := (grown_cell hgr2 (a := ⟨fb, 0, none⟩) hfb (by simp; omega)).trans hf0
        have l1 := (pair_cells (below_row hbel hrow2) hil).2
        have r2 := (pair_cells hrow' hpn).2
        have r3 := hrow'.frozen (p * 2 + 1)
        have hrs := hrow'.lt
        obtain ⟨y, hy⟩ : ∃ y, y = Kk p ||| B i := ⟨_, rfl⟩
        have e2 : bits .or .u64 (Kk p : Int) (B i : Int) = (y : Int) := by rw [hy]; exact u64_or_nat _ _ (hlt64.out p) (HB.out i)
        have HY64 : Hid (y < 18446744073709551616) := by rw [hy]; exact or_lt (hlt64.out p) (HB.out i)
        have HY : Hid (y = Kk p ||| B i) := hy
        clear hy hWi hyes hno
        go_wp2
        go_region
        go_wp2
        go_roundw
        case rel => exact ⟨k + 1, by omega, by go_num, fun i => if i = p then y else Kk i, hwk.out.step hA hlt HP.out (.inl ⟨i, hil, HI.out, rfl⟩) HY.out, upd_lt hlt64.out HY64.out p, grown_drew (grown_set hgr2 _ _), (pair_set hrow' p y).drew⟩
        case measure => simp [intOf]; omega
      | false =>
        have HN : Hid (∀ q, q < l → W q ≠ (p : Int)) := hno rfl
        clear hyes hno
        go_wp2
        go_roundw
        case rel => exact ⟨k + 1, by omega, by go_num, Kk, hwk.out.skip hA hlt HP.out HN.out, hlt64, hgr2, hrow'⟩
        case measure => simp [intOf]; omega
    · go_wp2
      go_end0
      obtain rfl : k = m := by omega
      exact ⟨rfl, Kk, hrow, fun i add hi ha => hwk.out.good hW hFO i add hi ha, hlt64.out, hgr⟩

/-- (*finding).orAt. -/
theorem orAt_any (fb rb ab lb n l m : Nat) (W A : Nat → Int) (B F K : Nat → Nat) (w : World)
    (hn : n ≤ 1048576) (hl : l ≤ 1048576) (hm : m ≤ 1048576)
    (hf0 : w.cell? ⟨fb, 0, none⟩ = some (.slice (some ⟨rb, 0, none⟩) n n)) (hf1 : w.cell? ⟨fb, 1, none⟩ = some (.slice (some ⟨ab, 0, none⟩) m m)) (hfb : fb < w.heap.size)
    (hrun : w.rowIs rb 43 (n * 2) (pairF (fun i => .int .u64 (F i : Nat)) (fun i => .int .u64 (K i : Nat))))
    (hat : w.rowIs ab 3 m (fun i => .int .i64 (A i)))
    (hlist : w.rowIs lb 57 (l * 2) (pairF (fun i => .int .i64 (W i)) (fun i => .int .u64 (B i : Nat))))
    (hrf : rb ≠ fb) (hrl : rb ≠ lb) (hra : rb ≠ ab) (hW : LOk W l n) (hA : LOk A m n) (hFO : FOk A m F n)
    (hF : ∀ i, F i < 18446744073709551616) (hK : ∀ i, K i < 18446744073709551616) (hB : ∀ i, B i < 18446744073709551616) :
    Calls Try.prog 19 #[.pointer (some ⟨fb, 0, none⟩), .slice (some ⟨lb, 0, none⟩) l l] w (OrEnd rb n l m W A B F K w) := by
  obtain ⟨L, hL0, hL1, hL⟩ := len_any (l : Int) (by omega) (by omega)
  by_cases hge : (l : Int) ≤ (m : Int) * L
  · exact orAt_walk fb rb ab lb n l m W A B F K w L hL0 hL1 hL hge hn hl hm hf0 hf1 hfb hrun hlist hrf hrl hW hFO hF hK hB
  · exact orAt_search fb rb ab lb n l m W A B F K w L hL0 hL1 hL (by omega) hn hl hm hf0 hf1 hfb hrun hat hlist hrf hrl hra hW hA hFO hF hK hB

/-- ZZorAt. -/
theorem zzOrAt_any (fb rb ab lb n l m : Nat) (W A : Nat → Int) (B F K : Nat → Nat) (w : World)
    (hn : n ≤ 1048576) (hl : l ≤ 1048576) (hm : m ≤ 1048576)
    (hf0 : w.cell? ⟨fb, 0, none⟩ = some (.slice (some ⟨rb, 0, none⟩) n n)) (hf1 : w.cell? ⟨fb, 1, none⟩ = some (.slice (some ⟨ab, 0, none⟩) m m)) (hfb : fb < w.heap.size)
    (hrun : w.rowIs rb 43 (n * 2) (pairF (fun i => .int .u64 (F i : Nat)) (fun i => .int .u64 (K i : Nat))))
    (hat : w.rowIs ab 3 m (fun i => .int .i64 (A i)))
    (hlist : w.rowIs lb 57 (l * 2) (pairF (fun i => .int .i64 (W i)) (fun i => .int .u64 (B i : Nat))))
    (hrf : rb ≠ fb) (hrl : rb ≠ lb) (hra : rb ≠ ab) (hW : LOk W l n) (hA : LOk A m n) (hFO : FOk A m F n)
    (hF : ∀ i, F i < 18446744073709551616) (hK : ∀ i, K i < 18446744073709551616) (hB : ∀ i, B i < 18446744073709551616) :
    Calls Try.prog 12 #[.pointer (some ⟨fb, 0, none⟩), .slice (some ⟨lb, 0, none⟩) l l] w (OrEnd rb n l m W A B F K w) := by
  have H : Hid (Calls Try.prog 19 #[.pointer (some ⟨fb, 0, none⟩), .slice (some ⟨lb, 0, none⟩) l l] w (OrEnd rb n l m W A B F K w)) :=
    orAt_any fb rb ab lb n l m W A B F K w hn hl hm hf0 hf1 hfb hrun hat hlist hrf hrl hra hW hA hFO hF hK hB
  clear hrun hat hlist hf0 hf1 hF hK hB
  go_enter Try.func12, Try.ntmps12
  go_wp2_with fail
  refine H.out.mono ?_
  rintro e w' ⟨rfl, hp⟩
  have HP : Hid (OrPost rb n l m W A B F K w w') := hp
  clear hp
  go_wp2
  go_end0
  exact ⟨rfl, HP.out⟩
end Go.Proofs.Qxb6603635a.Or
