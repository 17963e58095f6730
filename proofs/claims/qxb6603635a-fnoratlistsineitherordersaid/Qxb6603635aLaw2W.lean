import Derived.Test.Qxb6603635aLaw2
namespace Go.Proofs.Qxb6603635a.Or
open Go.RowKit Go.Deep
set_option linter.unusedVariables false

theorem below_dq {w w' : World} {B : Nat} (h : Below B w w') (q : Nat) : Below B w (w'.drewN q) := h.trans ⟨rfl, rfl, rfl, Nat.le_refl _, fun _ _ => rfl⟩
theorem below_box3 {w w' : World} (h : Below w.heap.size w w') {o1 o2 o3 o4 : Obj} {q r : Nat} : Below w.heap.size w (((((((w'.alloc o1).drewN q).alloc o2).drewN r).alloc o3)).alloc o4) :=
  ((below_dq ((below_dq (h.alloc h.size o1) q).alloc (Nat.le_trans h.size (by simp)) o2) r).alloc (Nat.le_trans h.size (by simp; omega)) o3).alloc (Nat.le_trans h.size (by simp; omega)) o4

set_option maxHeartbeats 3200000 in
set_option maxRecDepth 100000 in
theorem law2 (a a' a2 a3 : Option Addr) (b off n cap b' off' m cap' b2 off2 l cap2 b3 off3 l3 cap3 : Nat) (F K B B3 : Nat → Nat) (A W W3 : Nat → Int) (w : World) (hn : n ≤ maxLen) (hm : m ≤ maxLen) (hl : l ≤ maxLen) (hl3 : l3 ≤ maxLen)
    (hr : PairRow w a b off n (fun i => .int .u64 (F i : Nat)) (fun i => .int .u64 (K i : Nat))) (hr' : IntRow w a' b' off' m A) (hr2 : PairRow w a2 b2 off2 l (fun i => .int .i64 (W i)) (fun i => .int .u64 (B i : Nat)))
    (hr3 : PairRow w a3 b3 off3 l3 (fun i => .int .i64 (W3 i)) (fun i => .int .u64 (B3 i : Nat)))
    (hb : 0 < n → b < w.heap.size) (hb' : 0 < m → b' < w.heap.size) (hb2 : 0 < l → b2 < w.heap.size) (hb3 : 0 < l3 → b3 < w.heap.size)
    (hF : ∀ i, F i < 18446744073709551616) (hK : ∀ i, K i < 18446744073709551616) (hB : ∀ i, B i < 18446744073709551616) (hB3 : ∀ i, B3 i < 18446744073709551616) :
    Calls Try.prog 4 #[.slice a n cap, .slice a' m cap', .slice a2 l cap2, .slice a3 l3 cap3] w fun e w' => e = .returned (.bool true) ∧ Below w.heap.size w w' := by
  go_enter Try.func4, Try.ntmps4
  go_wp2_with fail
  refine (bytes2_any a a' a2 a3 n cap m cap' l cap2 l3 cap3 hn hm hl hl3 _).mono ?_
  rintro e w1 ⟨r, rfl, hP, q1, rfl⟩
  cases r with
  | false =>
    go_wp2
    go_ret
    exact ⟨rfl, below_dr _ _⟩
  | true =>
  obtain ⟨hn1, hm1, hl1, hl31⟩ := hP rfl
  clear hP hn hm hl hl3
  by_cases h1 : 65536 < n
  · go_wp2
    go_ret
    exact ⟨rfl, below_dr _ _⟩
  by_cases h2 : 65536 < m
  · go_wp2
    go_ret
    exact ⟨rfl, below_dr _ _⟩
  by_cases h3 : 65536 < l
  · go_wp2
    go_ret
    exact ⟨rfl, below_dr _ _⟩
  by_cases h4 : 65536 < l3
  · go_wp2
    go_ret
    exact ⟨rfl, below_dr _ _⟩
  by_cases h5 : 1048576 < 16 * n + 8 * m + 16 * l + 16 * l3
  · go_wp2
    go_ret
    exact ⟨rfl, below_dr _ _⟩
  have d1 : decide ((65536 : Int) < (n : Int)) = false := decide_eq_false (by omega)
  have d2 : decide ((65536 : Int) < (m : Int)) = false := decide_eq_false (by omega)
  have d3 : decide ((65536 : Int) < (l : Int)) = false := decide_eq_false (by omega)
  have d4 : decide ((65536 : Int) < (l3 : Int)) = false := decide_eq_false (by omega)
  have d5 : decide ((1048576 : Int) < 16 * (n : Int) + 8 * (m : Int) + 16 * (l : Int) + 16 * (l3 : Int)) = false := decide_eq_false (by omega)
  go_wp2_with fail
  refine (atOK_any a' b' off' m cap' n A _ (hr'.drewN q1) hm1).mono ?_
  rintro e w1 ⟨r, rfl, hP, q2, rfl⟩
  rw [World.drewN_drewN]
  generalize q1 + q2 = q1
  cases r with
  | false =>
    go_wp2
    go_ret
    exact ⟨rfl, below_dr _ _⟩
  | true =>
  have hA := hP rfl
  clear hP
  go_wp2_with fail
  refine (foundOK_any a a' b off n cap b' off' m cap' F _ A _ (hr.drewN _) (hr'.drewN _) hn1 hm1 hA).mono ?_
  rintro e w1 ⟨r, rfl, hP, q2, rfl⟩
  rw [World.drewN_drewN]
  generalize q1 + q2 = q1
  cases r with
  | false =>
    go_wp2
    go_ret
    exact ⟨rfl, below_dr _ _⟩
  | true =>
  have hFO := hP rfl
  clear hP
  go_wp2_with fail
  refine (listOK_any a2 b2 off2 l cap2 n W _ _ (hr2.drewN _) hl1).mono ?_
  rintro e w1 ⟨r, rfl, hP, q2, rfl⟩
  rw [World.drewN_drewN]
  generalize q1 + q2 = q1
  cases r with
  | false =>
    go_wp2
    go_ret
    exact ⟨rfl, below_dr _ _⟩
  | true =>
  have hW := hP rfl
  clear hP
  go_wp2_with fail
  refine (listOK_any a3 b3 off3 l3 cap3 n W3 _ _ (hr3.drewN _) hl31).mono ?_
  rintro e w1 ⟨r, rfl, hP, q2, rfl⟩
  rw [World.drewN_drewN]
  generalize q1 + q2 = q1
  cases r with
  | false =>
    go_wp2
    go_ret
    exact ⟨rfl, below_dr _ _⟩
  | true =>
  have hW3 := hP rfl
  clear hP
  -- the first finding
  go_wp2_with fail
  refine (runs_any a b off n cap F K _ (hr.drewN _) hn1 hb).mono ?_
  rintro e w2 ⟨rfl, hbel2', hrow2⟩
  have hbel2 : Below w.heap.size w w2 := (below_dr w q1).trans hbel2'
  have s2 : w.heap.size < w2.heap.size := hrow2.lt
  clear hbel2'
  go_wp2_with fail
  refine (ints_any a' b' off' m cap' A _ (hr'.below hb' hbel2) hm1 (fun h => Nat.lt_of_lt_of_le (hb' h) hbel2.size)).mono ?_
  rintro e w3 ⟨rfl, hbel3, hrow3⟩
  have s3 : w2.heap.size < w3.heap.size := hrow3.lt
  have hrow2 := below_row hbel3 hrow2
  have hbel3 : Below w.heap.size w w3 := hbel2.trans (hbel3.mono hbel2.size)
  go_wp2_with fail
  refine (newFinding' _ _ _ _ _ _ _).mono ?_
  rintro e w4 ⟨rfl, hbel4, s4, hc0, hc1⟩
  have f1 : Fin w4 w3.heap.size w.heap.size w2.heap.size n m F K A := ⟨hc0, hc1, s4, below_row hbel4 hrow2, below_row hbel4 hrow3, by omega, by omega⟩
  have hbel4 : Below w.heap.size w w4 := hbel3.trans (hbel4.mono hbel3.size)
  clear hrow2 hrow3 hc0 hc1 hbel2 hbel3
  go_wp2_with fail
  refine (blocks_any a2 b2 off2 l cap2 W B _ (hr2.below hb2 hbel4) hl1 (fun h => Nat.lt_of_lt_of_le (hb2 h) hbel4.size)).mono ?_
  rintro e w5 ⟨rfl, hbelx, hrx⟩
  have s5 : w4.heap.size < w5.heap.size := hrx.lt
  have f1 := f1.below hbelx
  have hbel4 : Below w.heap.size w w5 := hbel4.trans (hbelx.mono hbel4.size)
  clear hbelx
  go_wp2_with fail
  refine (f1.orAt w4.heap.size l W B hn1 hl1 hm1 hrx (by omega) hW hA hFO hF hK hB).mono ?_
  rintro e w6 ⟨rfl, K1, f1', good1, hK1, hgrx⟩
  have s6 : w5.heap.size ≤ w6.heap.size := hgrx.size
  have hbel4 : Below w.heap.size w w6 := hbel4.grown hgrx hbel4.size (fun k e => by simp at e; omega)
  clear f1 hgrx hrx
  rename Fin w6 _ _ _ _ _ _ _ _ => f1
  go_wp2_with fail
  refine (blocks_any a3 b3 off3 l3 cap3 W3 B3 _ (hr3.below hb3 hbel4) hl31 (fun h => Nat.lt_of_lt_of_le (hb3 h) hbel4.size)).mono ?_
  rintro e w7 ⟨rfl, hbelx, hrx⟩
  have s7 : w6.heap.size < w7.heap.size := hrx.lt
  have f1 := f1.below hbelx
  have hbel4 : Below w.heap.size w w7 := hbel4.trans (hbelx.mono hbel4.size)
  clear hbelx
  go_wp2_with fail
  refine (f1.orAt w6.heap.size l3 W3 B3 hn1 hl31 hm1 hrx (by omega) hW3 hA hFO hF hK1 hB3).mono ?_
  rintro e w8 ⟨rfl, K2, f1', good2, hK2, hgrx⟩
  have s8 : w7.heap.size ≤ w8.heap.size := hgrx.size
  have hbel4 : Below w.heap.size w w8 := hbel4.grown hgrx hbel4.size (fun k e => by simp at e; omega)
  clear f1 hgrx hrx
  rename Fin w8 _ _ _ _ _ _ _ _ => f1
  -- the second finding
  have hrow1 := f1.run
  clear f1
  go_wp2_with fail
  refine (runs_any a b off n cap F K _ (hr.below hb hbel4) hn1 (fun h => Nat.lt_of_lt_of_le (hb h) hbel4.size)).mono ?_
  rintro e w9 ⟨rfl, hbel2, hrow2⟩
  have s9 : w8.heap.size < w9.heap.size := hrow2.lt
  have hrow1 := below_row hbel2 hrow1
  have hbel4 : Below w.heap.size w w9 := hbel4.trans (hbel2.mono hbel4.size)
  clear hbel2
  go_wp2_with fail
  refine (ints_any a' b' off' m cap' A _ (hr'.below hb' hbel4) hm1 (fun h => Nat.lt_of_lt_of_le (hb' h) hbel4.size)).mono ?_
  rintro e w10 ⟨rfl, hbel3, hrow3⟩
  have s10 : w9.heap.size < w10.heap.size := hrow3.lt
  have hrow1 := below_row hbel3 hrow1
  have hrow2 := below_row hbel3 hrow2
  have hbel4 : Below w.heap.size w w10 := hbel4.trans (hbel3.mono hbel4.size)
  clear hbel3
  go_wp2_with fail
  refine (newFinding' _ _ _ _ _ _ _).mono ?_
  rintro e w11 ⟨rfl, hbel3, s11, hc0, hc1⟩
  have f2 : Fin w11 w10.heap.size w8.heap.size w9.heap.size n m F K A := ⟨hc0, hc1, s11, below_row hbel3 hrow2, below_row hbel3 hrow3, by omega, by omega⟩
  have hrow1 := below_row hbel3 hrow1
  have hbel4 : Below w.heap.size w w11 := hbel4.trans (hbel3.mono hbel4.size)
  clear hrow2 hrow3 hc0 hc1 hbel3
  go_wp2_with fail
  refine (blocks_any a3 b3 off3 l3 cap3 W3 B3 _ (hr3.below hb3 hbel4) hl31 (fun h => Nat.lt_of_lt_of_le (hb3 h) hbel4.size)).mono ?_
  rintro e w12 ⟨rfl, hbelx, hrx⟩
  have s12 : w11.heap.size < w12.heap.size := hrx.lt
  have f2 := f2.below hbelx
  have hrow1 := below_row hbelx hrow1
  have hbel4 : Below w.heap.size w w12 := hbel4.trans (hbelx.mono hbel4.size)
  clear hbelx
  go_wp2_with fail
  refine (f2.orAt w11.heap.size l3 W3 B3 hn1 hl31 hm1 hrx (by omega) hW3 hA hFO hF hK hB3).mono ?_
  rintro e w13 ⟨rfl, J1, f2', good3, hJ1, hgrx⟩
  have s13 : w12.heap.size ≤ w13.heap.size := hgrx.size
  have hrow1 := grown_row hgrx hrow1 (by simp; omega)
  have hbel4 : Below w.heap.size w w13 := hbel4.grown hgrx hbel4.size (fun k e => by simp at e; omega)
  clear f2 hgrx hrx
  rename Fin w13 _ _ _ _ _ _ _ _ => f2
  go_wp2_with fail
  refine (blocks_any a2 b2 off2 l cap2 W B _ (hr2.below hb2 hbel4) hl1 (fun h => Nat.lt_of_lt_of_le (hb2 h) hbel4.size)).mono ?_
  rintro e w14 ⟨rfl, hbelx, hrx⟩
  have s14 : w13.heap.size < w14.heap.size := hrx.lt
  have f2 := f2.below hbelx
  have hrow1 := below_row hbelx hrow1
  have hbel4 : Below w.heap.size w w14 := hbel4.trans (hbelx.mono hbel4.size)
  clear hbelx
  go_wp2_with fail
  refine (f2.orAt w13.heap.size l W B hn1 hl1 hm1 hrx (by omega) hW hA hFO hF hJ1 hB).mono ?_
  rintro e w15 ⟨rfl, J2, f2', good4, hJ2, hgrx⟩
  have s15 : w14.heap.size ≤ w15.heap.size := hgrx.size
  have hrow1 := grown_row hgrx hrow1 (by simp; omega)
  have hbel4 : Below w.heap.size w w15 := hbel4.grown hgrx hbel4.size (fun k e => by simp at e; omega)
  clear f2 hgrx hrx
  rename Fin w15 _ _ _ _ _ _ _ _ => f2
  have hrow8 := f2.run
  clear f2
  have HG1 : Hid (∀ i x y, i < n → Adds W B l i x → Adds W3 B3 l3 i y → Good (F i) (K i) (K2 i) (x ||| y) (In A m i)) := fun i x y hi hx hy => (good1 i x hi hx).after (good2 i y hi hy)
  have HG2 : Hid (∀ i x y, i < n → Adds W B l i x → Adds W3 B3 l3 i y → Good (F i) (K i) (J2 i) (x ||| y) (In A m i)) := fun i x y hi hx hy => by
    rw [Nat.or_comm]
    exact (good3 i y hi hy).after (good4 i x hi hx)
  have HK2 : Hid (∀ i, K2 i < 18446744073709551616) := hK2
  have HJ2 : Hid (∀ i, J2 i < 18446744073709551616) := hJ2
  have HF : Hid (∀ i, F i < 18446744073709551616) := hF
  have HK : Hid (∀ i, K i < 18446744073709551616) := hK
  have HB : Hid (∀ i, B i < 18446744073709551616) := hB
  have HB3 : Hid (∀ i, B3 i < 18446744073709551616) := hB3
  clear good1 good2 good3 good4 hK1 hK2 hJ1 hJ2 hF hK hB hB3 s2 s3 s4 s5 s6 s7 s8 s9 s10 s11 s12 s13 s14 s15
  go_wp2_with fail
  go_loopw [14, 15, 16, 17] (fun ja jb k i wr => ∃ jn jm kn iN : Nat, iN ≤ n ∧ ja = .int .i64 jn ∧ jb = .int .i64 jm ∧ k = .int .i64 kn ∧ i = .int .i64 iN ∧ jn ≤ l ∧ jm ≤ l3 ∧ Hid (∀ r, r < jn → W r < (iN : Int)) ∧ Hid (∀ r, r < jm → W3 r < (iN : Int)) ∧
      Split A m kn iN ∧ Below w15.heap.size w15 wr) (fun _ _ _ i _ => n - (intOf i).toNat)
  case atStart => exact ⟨0, 0, 0, 0, Nat.zero_le _, rfl, rfl, rfl, rfl, Nat.zero_le _, Nat.zero_le _, fun _ h => absurd h (Nat.not_lt_zero _), fun _ h => absurd h (Nat.not_lt_zero _), Split.zero hA, Below.refl _ _⟩
  case round =>
    obtain ⟨j, j3, k, i, hi, rfl, rfl, rfl, rfl, hj, hj3, hlo, hlo3, hsp, hbr⟩ := hrel
    have hbw : Below w.heap.size w wr := hbel4.trans (hbr.mono hbel4.size)
    by_cases hlt : i < n
    · obtain rfl := hr.1 (by omega)
      have g1 := ((hr.below hb hbw).2 i hlt).1
      have g2 := ((hr.below hb hbw).2 i hlt).2
      have hrow1 := below_row hbr hrow1
      have hrow8 := below_row hbr hrow8
      have g3 := (pair_cells hrow1 hlt).1
      have g4 := (pair_cells hrow1 hlt).2
      have g6 := (pair_cells hrow8 hlt).1
      have g7 := (pair_cells hrow8 hlt).2
      have hbb := Nat.lt_of_lt_of_le (hb (by omega)) hbw.size
      have hbb1 : b < wr.heap.size + 1 := by omega
      have hbb2 : b < wr.heap.size + 1 + 1 := by omega
      have hbb3 : b < wr.heap.size + 1 + 1 + 1 := by omega
      have hrb1 := hrow1.lt
      have hrb8 := hrow8.lt
      have hkm := hsp.1
      go_wp2_with fail
      refine (bitsOf_any a2 b2 off2 l cap2 n j i W B _ (hr2.below hb2 hbw) hl1 hW hj hlo.out).mono ?_
      rintro e w16 ⟨x, q, rfl, hx, hq, hlo', hwx⟩
      rw [hwx]
      clear hwx w16
      have HLO : Hid (∀ r, r < q → W r < ((i + 1 : Nat) : Int)) := fun r hr => by have := hlo' r hr; omega
      have hx64 : x < 18446744073709551616 := by
        rcases hx with ⟨t, _, _, rfl⟩ | ⟨_, rfl⟩
        · exact HB.out t
        · omega
      clear hlo'
      go_wp2_with fail
      refine (bitsOf_any a3 b3 off3 l3 cap3 n j3 i W3 B3 _ (hr3.below hb3 hbw) hl31 hW3 hj3 hlo3.out).mono ?_
      rintro e w16 ⟨y, q3, rfl, hy, hq3, hlo', hwx⟩
      rw [hwx]
      clear hwx w16
      have HLO3 : Hid (∀ r, r < q3 → W3 r < ((i + 1 : Nat) : Int)) := fun r hr => by have := hlo' r hr; omega
      have hy64 : y < 18446744073709551616 := by
        rcases hy with ⟨t, _, _, rfl⟩ | ⟨_, rfl⟩
        · exact HB3.out t
        · omega
      clear hlo'
      have G1 := HG1.out i x y hlt hx hy
      have G2 := HG2.out i x y hlt hx hy
      obtain ⟨add, hadd⟩ : ∃ add, add = x ||| y := ⟨_, rfl⟩
      rw [← hadd] at G1 G2
      have eo : bits .or .u64 (x : Int) (y : Int) = (add : Int) := by rw [hadd]; exact u64_or_nat _ _ hx64 hy64
      have HA64 : Hid (add < 18446744073709551616) := by rw [hadd]; exact or_lt hx64 hy64
      obtain ⟨z, hz⟩ : ∃ z, z = K2 i &&& F i := ⟨_, rfl⟩
      have e1 : bits .and .u64 (K2 i : Int) (F i : Int) = (z : Int) := by rw [hz]; exact u64_and_nat _ _ (HK2.out i) (HF.out i)
      have e2 : bits .and .u64 (J2 i : Int) (F i : Int) = (z : Int) := by rw [hz, G1.found, ← G2.found]; exact u64_and_nat _ _ (HJ2.out i) (HF.out i)
      clear hadd hz hx64 hy64 hx hy
      by_cases hk : k < m
      · obtain rfl := hr'.1 (by omega)
        have g5 := (hr'.below hb' hbw).2 k hk
        by_cases he : A k = (i : Int)
        · have hbq : (A k == (i : Int)) = true := by simp [he]
          have HE : Hid (A k = (i : Int)) := he
          clear he
          go_wp2_with (go_at_call 15; refine (runOf_any _ _ _).mono ?_; rintro e w8 ⟨rfl, q8, rfl⟩)
          refine (runOK_yes (F i) (K i) (K2 i) add (HF.out i) (HK.out i) (HK2.out i) HA64.out G1 _).mono ?_
          rintro e w17 ⟨rfl, rfl⟩
          go_wp2_with fail
          refine (runOK_yes (F i) (K i) (J2 i) add (HF.out i) (HK.out i) (HJ2.out i) HA64.out G2 _).mono ?_
          rintro e w17 ⟨rfl, rfl⟩
          go_wp2_with fail
          go_roundw
          case rel => exact ⟨q, q3, k + 1, i + 1, by omega, rfl, rfl, by go_num, by go_num, hq, hq3, HLO, HLO3, hsp.hit hA hk HE.out, below_box3 hbr⟩
          case measure => simp [intOf]; omega
        · have hbq : (A k == (i : Int)) = false := by simp [he]
          have HN : Hid (¬ In A m i) := hsp.not_in hA (fun _ => he)
          go_wp2_with (go_at_call 15; refine (runOf_any _ _ _).mono ?_; rintro e w8 ⟨rfl, q8, rfl⟩)
          refine (runOK_no (F i) (K i) (K2 i) add G1 HN.out _).mono ?_
          rintro e w17 ⟨rfl, rfl⟩
          go_wp2_with fail
          refine (runOK_no (F i) (K i) (J2 i) add G2 HN.out _).mono ?_
          rintro e w17 ⟨rfl, rfl⟩
          go_wp2_with fail
          go_roundw
          case rel => exact ⟨q, q3, k, i + 1, by omega, rfl, rfl, rfl, by go_num, hq, hq3, HLO, HLO3, hsp.miss hA (fun _ => he), below_box3 hbr⟩
          case measure => simp [intOf]; omega
      · have HN : Hid (¬ In A m i) := hsp.not_in hA (fun h => absurd h hk)
        go_wp2_with (go_at_call 15; refine (runOf_any _ _ _).mono ?_; rintro e w8 ⟨rfl, q8, rfl⟩)
        refine (runOK_no (F i) (K i) (K2 i) add G1 HN.out _).mono ?_
        rintro e w17 ⟨rfl, rfl⟩
        go_wp2_with fail
        refine (runOK_no (F i) (K i) (J2 i) add G2 HN.out _).mono ?_
        rintro e w17 ⟨rfl, rfl⟩
        go_wp2_with fail
        go_roundw
        case rel => exact ⟨q, q3, k, i + 1, by omega, rfl, rfl, rfl, by go_num, hq, hq3, HLO, HLO3, hsp.miss hA (fun h => absurd h hk), below_box3 hbr⟩
        case measure => simp [intOf]; omega
    · go_wp2_with fail
      go_ret
      exact ⟨rfl, hbw⟩
end Go.Proofs.Qxb6603635a.Or
