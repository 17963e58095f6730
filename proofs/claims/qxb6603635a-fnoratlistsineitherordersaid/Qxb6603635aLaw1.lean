import Derived.Test.Qxb6603635aOrAt2
import Derived.Test.Qxb6603635aInts
namespace Go.Proofs.Qxb6603635a.Or
open Go.RowKit Go.Deep
set_option linter.unusedVariables false

theorem bytes_any (a a' a2 : Option Addr) (n cap m cap' l cap2 : Nat) (hn : n ≤ maxLen) (hm : m ≤ maxLen) (hl : l ≤ maxLen) (w : World) :
    Calls Try.prog 5 #[.slice a n cap, .slice a' m cap', .slice a2 l cap2] w (Tells (n ≤ 1048576 ∧ m ≤ 1048576 ∧ l ≤ 1048576) w) := by
  unfold maxLen at hn hm hl
  go_enter Try.func5, Try.ntmps5
  go_wp2
  all_goals go_ret
  all_goals first
    | exact Tells.no (q := 0)
    | exact Tells.yes (q := 0) ⟨by omega, by omega, by omega⟩

theorem below_dr (w : World) (q : Nat) : Below w.heap.size w (w.drewN q) := ⟨rfl, rfl, rfl, Nat.le_refl _, fun _ _ => rfl⟩

theorem below_box {w w' : World} (h : Below w.heap.size w w') {o o' : Obj} {q : Nat} : Below w.heap.size w (((w'.alloc o).alloc o').drewN q) :=
  ((h.alloc h.size o).alloc (Nat.le_trans h.size (by simp)) o').trans ⟨rfl, rfl, rfl, Nat.le_refl _, fun _ _ => rfl⟩
theorem newFinding' (a a' : Option Addr) (n c n' c' : Nat) (w : World) :
    Calls Try.prog 10 #[.slice a n c, .slice a' n' c'] w fun e w' => e = .returned (.pointer (some ⟨w.heap.size, 0, none⟩)) ∧ Below w.heap.size w w' ∧ w.heap.size < w'.heap.size ∧
      w'.cell? ⟨w.heap.size, 0, none⟩ = some (.slice a n c) ∧ w'.cell? ⟨w.heap.size, 1, none⟩ = some (.slice a' n' c') := by
  refine (newFinding_any _ _ w ⟨a, n, c, rfl⟩ ⟨a', n', c', rfl⟩).mono ?_
  rintro e w' ⟨rfl, rfl⟩
  exact ⟨rfl, (Below.refl _ _).alloc (Nat.le_refl _) _, by simp, by simp [go_sem], by simp [go_sem]⟩
theorem IntRow.below {w w' : World} {a : Option Addr} {b off m : Nat} {A : Nat → Int} (h : IntRow w a b off m A) (hb : 0 < m → b < w.heap.size) (hw : Below w.heap.size w w') : IntRow w' a b off m A :=
  ⟨h.1, fun i hi => (hw.cell (p := ⟨b, off + i, none⟩) (hb (by omega))).trans (h.2 i hi)⟩
theorem PairRow.below {w w' : World} {a : Option Addr} {b off m : Nat} {X Y : Nat → Value} (h : PairRow w a b off m X Y) (hb : 0 < m → b < w.heap.size) (hw : Below w.heap.size w w') : PairRow w' a b off m X Y :=
  ⟨h.1, fun i hi => ⟨(hw.cell (p := ⟨b, off + i * 2, none⟩) (hb (by omega))).trans (h.2 i hi).1, (hw.cell (p := ⟨b, off + i * 2 + 1, none⟩) (hb (by omega))).trans (h.2 i hi).2⟩⟩

set_option maxHeartbeats 1600000 in
theorem law1 (a a' a2 : Option Addr) (b off n cap b' off' m cap' b2 off2 l cap2 : Nat) (F K B : Nat → Nat) (A W : Nat → Int) (w : World) (hn : n ≤ maxLen) (hm : m ≤ maxLen) (hl : l ≤ maxLen)
    (hr : PairRow w a b off n (fun i => .int .u64 (F i : Nat)) (fun i => .int .u64 (K i : Nat))) (hr' : IntRow w a' b' off' m A) (hr2 : PairRow w a2 b2 off2 l (fun i => .int .i64 (W i)) (fun i => .int .u64 (B i : Nat)))
    (hb : 0 < n → b < w.heap.size) (hb' : 0 < m → b' < w.heap.size) (hb2 : 0 < l → b2 < w.heap.size)
    (hF : ∀ i, F i < 18446744073709551616) (hK : ∀ i, K i < 18446744073709551616) (hB : ∀ i, B i < 18446744073709551616) :
    Calls Try.prog 3 #[.slice a n cap, .slice a' m cap', .slice a2 l cap2] w fun e w' => e = .returned (.bool true) ∧ Below w.heap.size w w' := by
  go_enter Try.func3, Try.ntmps3
  go_wp2_with fail
  refine (bytes_any a a' a2 n cap m cap' l cap2 hn hm hl _).mono ?_
  rintro e w1 ⟨r, rfl, hP, q1, rfl⟩
  cases r with
  | false =>
    go_wp2
    go_ret
    exact ⟨rfl, below_dr _ _⟩
  | true =>
  obtain ⟨hn1, hm1, hl1⟩ := hP rfl
  clear hP hn hm hl
  by_cases h1 : 65536 < n
  · go_wp2
    go_ret
    exact ⟨rfl, below_dr _ _⟩
  by_cases h2 : 65536 < m
  · go_wp2
    go_ret
    exact ⟨rfl, below_dr _ _⟩
  by_cases h3 : 65536 < l
  · go_wp2
    go_ret
    exact ⟨rfl, below_dr _ _⟩
  by_cases h4 : 1048576 < 16 * n + 8 * m + 16 * l
  · go_wp2
    go_ret
    exact ⟨rfl, below_dr _ _⟩
  have d1 : decide ((65536 : Int) < (n : Int)) = false := decide_eq_false (by omega)
  have d2 : decide ((65536 : Int) < (m : Int)) = false := decide_eq_false (by omega)
  have d3 : decide ((65536 : Int) < (l : Int)) = false := decide_eq_false (by omega)
  have d4 : decide ((1048576 : Int) < 16 * (n : Int) + 8 * (m : Int) + 16 * (l : Int)) = false := decide_eq_false (by omega)
  go_wp2_with fail
  refine (atOK_any a' b' off' m cap' n A _ (hr'.drewN q1) hm1).mono ?_
  rintro e w1 ⟨r, rfl, hP, q2, rfl⟩
  rw [World.drewN_drewN]
  generalize q1 + q2 = q1
  cases r with
  | false =>
    go_wp2
    go_ret
    exact ⟨rfl, below_dr _ _⟩
  | true =>
  have hA := hP rfl
  clear hP
  go_wp2_with fail
  refine (foundOK_any a a' b off n cap b' off' m cap' F _ A _ (hr.drewN _) (hr'.drewN _) hn1 hm1 hA).mono ?_
  rintro e w1 ⟨r, rfl, hP, q2, rfl⟩
  rw [World.drewN_drewN]
  generalize q1 + q2 = q1
  cases r with
  | false =>
    go_wp2
    go_ret
    exact ⟨rfl, below_dr _ _⟩
  | true =>
  have hFO := hP rfl
  clear hP
  go_wp2_with fail
  refine (listOK_any a2 b2 off2 l cap2 n W _ _ (hr2.drewN _) hl1).mono ?_
  rintro e w1 ⟨r, rfl, hP, q2, rfl⟩
  rw [World.drewN_drewN]
  generalize q1 + q2 = q1
  cases r with
  | false =>
    go_wp2
    go_ret
    exact ⟨rfl, below_dr _ _⟩
  | true =>
  have hW := hP rfl
  clear hP
  go_wp2_with fail
  refine (runs_any a b off n cap F K _ (hr.drewN _) hn1 hb).mono ?_
  rintro e w2 ⟨rfl, hbel2', hrow2⟩
  have hbel2 : Below w.heap.size w w2 := (below_dr w q1).trans hbel2'
  have hrs : w.heap.size < w2.heap.size := hrow2.lt
  clear hbel2'
  go_wp2_with fail
  refine (ints_any a' b' off' m cap' A _ (hr'.below hb' hbel2) hm1 (fun h => Nat.lt_of_lt_of_le (hb' h) hbel2.size)).mono ?_
  rintro e w3 ⟨rfl, hbel3, hrow3⟩
  have hrow2 := below_row hbel3 hrow2
  have hs3 := hrow3.lt
  have hbel3 : Below w.heap.size w w3 := hbel2.trans (hbel3.mono hbel2.size)
  go_wp2_with fail
  refine (newFinding' _ _ _ _ _ _ _).mono ?_
  rintro e w4 ⟨rfl, hbel4, hs4, hc0, hc1⟩
  have hrow2 := below_row hbel4 hrow2
  have hrow3 := below_row hbel4 hrow3
  have hbel4 : Below w.heap.size w w4 := hbel3.trans (hbel4.mono hbel3.size)
  go_wp2_with fail
  refine (blocks_any a2 b2 off2 l cap2 W B _ (hr2.below hb2 hbel4) hl1 (fun h => Nat.lt_of_lt_of_le (hb2 h) hbel4.size)).mono ?_
  rintro e w5 ⟨rfl, hbel5, hrow4⟩
  have hrow2 := below_row hbel5 hrow2
  have hrow3 := below_row hbel5 hrow3
  have hc0 := (hbel5.cell (p := ⟨w3.heap.size, 0, none⟩) hs4).trans hc0
  have hc1 := (hbel5.cell (p := ⟨w3.heap.size, 1, none⟩) hs4).trans hc1
  have hs5 := hbel5.size
  have hbel5 : Below w.heap.size w w5 := hbel4.trans (hbel5.mono hbel4.size)
  go_wp2_with fail
  refine (zzOrAt_any w3.heap.size w.heap.size w2.heap.size w4.heap.size n l m W A B F K _ hn1 hl1 hm1 hc0 hc1 (by omega) hrow2 hrow3 hrow4 (by omega) (by omega) (by omega) hW hA hFO hF hK hB).mono ?_
  rintro e w6 ⟨rfl, K', hrow6, hgood, hK', hgr6⟩
  have hbel6 : Below w.heap.size w w6 := hbel5.grown hgr6 hbel5.size (fun k e => by simp at e; omega)
  have HG : Hid (∀ i add, i < n → Adds W B l i add → Good (F i) (K i) (K' i) add (In A m i)) := hgood
  have HK' : Hid (∀ i, K' i < 18446744073709551616) := hK'
  have HF : Hid (∀ i, F i < 18446744073709551616) := hF
  have HK : Hid (∀ i, K i < 18446744073709551616) := hK
  have HB : Hid (∀ i, B i < 18446744073709551616) := hB
  clear hrow2 hrow3 hrow4 hc0 hc1 hbel2 hbel3 hbel4 hbel5 hgr6 hgood hK' hF hK hB hs5 hs4 hs3
  go_wp2_with fail
  go_loopw [10, 11, 12] (fun j k i wr => ∃ jn kn iN : Nat, iN ≤ n ∧ j = .int .i64 jn ∧ k = .int .i64 kn ∧ i = .int .i64 iN ∧ jn ≤ l ∧ Hid (∀ r, r < jn → W r < (iN : Int)) ∧ Split A m kn iN ∧ Below w6.heap.size w6 wr) (fun _ _ i _ => n - (intOf i).toNat)
  case atStart => exact ⟨0, 0, 0, Nat.zero_le _, rfl, rfl, rfl, Nat.zero_le _, fun _ h => absurd h (Nat.not_lt_zero _), Split.zero hA, Below.refl _ _⟩
  case round =>
    obtain ⟨j, k, i, hi, rfl, rfl, rfl, hj, hlo, hsp, hbr⟩ := hrel
    have hbw : Below w.heap.size w wr := hbel6.trans (hbr.mono hbel6.size)
    by_cases hlt : i < n
    · obtain rfl := hr.1 (by omega)
      have g1 := ((hr.below hb hbw).2 i hlt).1
      have g2 := ((hr.below hb hbw).2 i hlt).2
      have hrow7 := below_row hbr hrow6
      have g3 := (pair_cells hrow7 hlt).1
      have g4 := (pair_cells hrow7 hlt).2
      have hbb := Nat.lt_of_lt_of_le (hb (by omega)) hbw.size
      have hrb := hrow7.lt
      have hkm := hsp.1
      go_wp2_with fail
      refine (bitsOf_any a2 b2 off2 l cap2 n j i W B _ (hr2.below hb2 hbw) hl1 hW hj hlo.out).mono ?_
      rintro e w7 ⟨add, q, rfl, hadd, hq, hlo', rfl⟩
      have HLO : Hid (∀ r, r < q → W r < ((i + 1 : Nat) : Int)) := fun r hr => by have := hlo' r hr; omega
      have hadd64 : add < 18446744073709551616 := by
        rcases hadd with ⟨x, _, _, rfl⟩ | ⟨_, rfl⟩
        · exact HB.out x
        · omega
      have HA64 : Hid (add < 18446744073709551616) := hadd64
      clear hlo' hadd64
      by_cases hk : k < m
      · obtain rfl := hr'.1 (by omega)
        have g5 := (hr'.below hb' hbw).2 k hk
        by_cases he : A k = (i : Int)
        · have hbq : (A k == (i : Int)) = true := by simp [he]
          have HE : Hid (A k = (i : Int)) := he
          clear he
          go_wp2_with (first
            | (go_at_call 15; refine (runOf_any _ _ _).mono ?_; rintro e w8 ⟨rfl, q8, rfl⟩)
            | (go_at_call 16; refine (runOK_yes (F i) (K i) (K' i) add (HF.out i) (HK.out i) (HK'.out i) HA64.out (HG.out i add hlt hadd) _).mono ?_; rintro e w8 ⟨rfl, rfl⟩))
          go_roundw
          case rel => exact ⟨q, k + 1, i + 1, by omega, rfl, by go_num, by go_num, hq, HLO, hsp.hit hA hk HE.out, below_box hbr⟩
          case measure => simp [intOf]; omega
        · have hbq : (A k == (i : Int)) = false := by simp [he]
          have HN : Hid (¬ In A m i) := hsp.not_in hA (fun _ => he)
          go_wp2_with (first
            | (go_at_call 15; refine (runOf_any _ _ _).mono ?_; rintro e w8 ⟨rfl, q8, rfl⟩)
            | (go_at_call 16; refine (runOK_no (F i) (K i) (K' i) add (HG.out i add hlt hadd) HN.out _).mono ?_; rintro e w8 ⟨rfl, rfl⟩))
          go_roundw
          case rel => exact ⟨q, k, i + 1, by omega, rfl, rfl, by go_num, hq, HLO, hsp.miss hA (fun _ => he), below_box hbr⟩
          case measure => simp [intOf]; omega
      · have HN : Hid (¬ In A m i) := hsp.not_in hA (fun h => absurd h hk)
        go_wp2_with (first
          | (go_at_call 15; refine (runOf_any _ _ _).mono ?_; rintro e w8 ⟨rfl, q8, rfl⟩)
          | (go_at_call 16; refine (runOK_no (F i) (K i) (K' i) add (HG.out i add hlt hadd) HN.out _).mono ?_; rintro e w8 ⟨rfl, rfl⟩))
        go_roundw
        case rel => exact ⟨q, k, i + 1, by omega, rfl, rfl, by go_num, hq, HLO, hsp.miss hA (fun h => absurd h hk), below_box hbr⟩
        case measure => simp [intOf]; omega
    · go_wp2_with fail
      go_ret
      exact ⟨rfl, hbw⟩
end Go.Proofs.Qxb6603635a.Or
