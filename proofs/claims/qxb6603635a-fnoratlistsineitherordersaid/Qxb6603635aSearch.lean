import Derived.Test.Qxb6603635aMakes
namespace Go.Proofs.Qxb6603635a.Or
open Go.RowKit Go.Deep

/-- cmp.Compare on ints. -/
def cmpI (x y : Int) : Int := if x < y then -1 else if y < x then 1 else 0
theorem cmpI_lt {x y : Int} (h : x < y) : cmpI x y = -1 := by simp [cmpI, h]
theorem cmpI_gt {x y : Int} (h : y < x) : cmpI x y = 1 := by have h' : ¬ x < y := by omega
                                                             simp [cmpI, h, h']
theorem cmpI_ge {x y : Int} (h : y ≤ x) : 0 ≤ cmpI x y := by
  have h' : ¬ x < y := by omega
  unfold cmpI; rw [if_neg h']; split <;> omega
theorem cmpI_eq (x : Int) : cmpI x x = 0 := by simp [cmpI]

theorem compare_any (x y : Int) (w : World) : Calls Try.prog 24 #[.int .i64 x, .int .i64 y] w fun e w' => e = .returned (.int .i64 (cmpI x y)) ∧ w' = w := by
  by_cases h1 : x < y
  · rw [cmpI_lt h1]
    go_enter Try.func24, Try.ntmps24
    go_wp2
    go_ret
    exact ⟨rfl, rfl⟩
  · by_cases h2 : y < x
    · rw [cmpI_gt h2]
      go_enter Try.func24, Try.ntmps24
      go_wp2
      go_ret
      exact ⟨rfl, rfl⟩
    · obtain rfl : x = y := by omega
      rw [cmpI_eq]
      go_enter Try.func24, Try.ntmps24
      go_wp2
      go_ret
      exact ⟨rfl, rfl⟩

theorem less_any (x y c : Int) (w : World) : Calls Try.prog 23 #[.agg #[.int .i64 x, .int .u64 c], .int .i64 y] w fun e w' => e = .returned (.int .i64 (cmpI x y)) ∧ w' = w.alloc (.cells #[.int .i64 x, .int .u64 c] 57) := by
  go_enter Try.func23, Try.ntmps23
  go_wp2_with (go_at_call 24; refine (compare_any _ _ _).mono ?_; rintro e w' ⟨rfl, rfl⟩)
  go_ret
  exact ⟨rfl, rfl⟩

/-- What the binary search hands back. -/
def SearchPost (W : Nat → Int) (l : Nat) (x : Int) (w : World) (e : Ending) (w' : World) : Prop :=
  ∃ (i : Nat) (ok : Bool), e = .returned (.tuple #[.int .i64 i, .bool ok]) ∧ (ok = true → i < l ∧ W i = x) ∧ (ok = false → ∀ q, q < l → W q ≠ x) ∧ Below w.heap.size w w'

set_option maxHeartbeats 800000 in
theorem search_any (lb l n : Nat) (W : Nat → Int) (B : Nat → Nat) (x : Int) (w : World) (hl : l ≤ 1048576) (hok : LOk W l n)
    (hrow : w.rowIs lb 57 (l * 2) (pairF (fun i => .int .i64 (W i)) (fun i => .int .u64 (B i : Nat)))) :
    Calls Try.prog 22 #[.slice (some ⟨lb, 0, none⟩) l l, .int .i64 x, .func (.func 23) #[] #[]] w (SearchPost W l x w) := by
  have hlb := hrow.lt
  have hc : ∀ i, i < l → w.cell? ⟨lb, i * 2, none⟩ = some (.int .i64 (W i)) ∧ w.cell? ⟨lb, i * 2 + 1, none⟩ = some (.int .u64 (B i : Nat)) := fun i hi => by
    have h1 := hrow.cell (i := i * 2) (by omega)
    have h2 := hrow.cell (i := i * 2 + 1) (by omega)
    have e1 : i * 2 / 2 = i := by omega
    have e2 : (i * 2 + 1) / 2 = i := by omega
    have e3 : (i * 2 + 1) % 2 = 1 := by omega
    simp only [pairF, Nat.mul_mod_left, e1, e2, e3] at h1 h2
    exact ⟨by simpa using h1, by simpa using h2⟩
  have HC : Hid (∀ i, i < l → w.cell? ⟨lb, i * 2, none⟩ = some (.int .i64 (W i)) ∧ w.cell? ⟨lb, i * 2 + 1, none⟩ = some (.int .u64 (B i : Nat))) := hc
  clear hc hrow
  go_enter Try.func22, Try.ntmps22
  go_wp2
  go_loopw [9, 10] (fun a b wr => ∃ lo hi : Nat, lo ≤ hi ∧ hi ≤ l ∧ a = .int .i64 lo ∧ b = .int .i64 hi ∧ Hid (∀ q, q < lo → W q < x) ∧ Hid (∀ q, hi ≤ q → q < l → x ≤ W q) ∧ Below w.heap.size w wr) (fun a b _ => (intOf b).toNat - (intOf a).toNat)
  case atStart => exact ⟨0, l, Nat.zero_le _, Nat.le_refl _, rfl, rfl, fun q h => absurd h (Nat.not_lt_zero _), fun q h h' => by omega, Below.refl _ _⟩
  case round =>
    obtain ⟨lo, hi, h1, h2, rfl, rfl, hlo, hhi, hbel⟩ := hrel
    by_cases hlt : lo < hi
    · have hm1 : lo ≤ (lo + hi) / 2 := by omega
      have hm2 : (lo + hi) / 2 < hi := by omega
      have g1 := (hbel.cell (p := ⟨lb, (lo + hi) / 2 * 2, none⟩) hlb).trans (HC.out ((lo + hi) / 2) (by omega)).1
      have g2 := (hbel.cell (p := ⟨lb, (lo + hi) / 2 * 2 + 1, none⟩) hlb).trans (HC.out ((lo + hi) / 2) (by omega)).2
      by_cases hx : W ((lo + hi) / 2) < x
      · have hcm := cmpI_lt hx
        go_wp2_with (go_at_call 23; refine (less_any _ _ _ _).mono ?_; rintro e w' ⟨rfl, rfl⟩)
        go_roundw
        case rel => exact ⟨(lo + hi) / 2 + 1, hi, by omega, h2, by go_num, rfl, fun q hq => by
          by_cases e : q = (lo + hi) / 2
          · subst e; exact hx
          · have := hok.lt (i := q) (j := (lo + hi) / 2) (by omega) (by omega)
            omega, hhi, hbel.alloc hbel.size _⟩
        case measure => simp [intOf]; omega
      · have hcm := cmpI_ge (x := W ((lo + hi) / 2)) (y := x) (by omega)
        go_wp2_with (go_at_call 23; refine (less_any _ _ _ _).mono ?_; rintro e w' ⟨rfl, rfl⟩)
        go_roundw
        case rel => exact ⟨lo, (lo + hi) / 2, by omega, by omega, rfl, by go_num, hlo, fun q hq hql => by
          by_cases e : q = (lo + hi) / 2
          · subst e; omega
          · have := hok.lt (i := (lo + hi) / 2) (j := q) (by omega) hql
            omega, hbel.alloc hbel.size _⟩
        case measure => simp [intOf]; omega
    · obtain rfl : lo = hi := by omega
      by_cases hll : lo < l
      · have g1 := (hbel.cell (p := ⟨lb, lo * 2, none⟩) hlb).trans (HC.out lo hll).1
        have g2 := (hbel.cell (p := ⟨lb, lo * 2 + 1, none⟩) hlb).trans (HC.out lo hll).2
        have hge := hhi.out lo (Nat.le_refl _) hll
        by_cases he : W lo = x
        · have hcm : cmpI (W lo) x = 0 := by rw [he]; exact cmpI_eq x
          have HE : Hid (W lo = x) := he
          clear he
          go_wp2_with (go_at_call 23; refine (less_any _ _ _ _).mono ?_; rintro e w' ⟨rfl, rfl⟩)
          go_ret2
          exact ⟨lo, true, rfl, fun _ => ⟨hll, HE.out⟩, (by intro h; cases h), hbel.alloc hbel.size _⟩
        · have hcm : cmpI (W lo) x = 1 := cmpI_gt (by omega)
          go_wp2_with (go_at_call 23; refine (less_any _ _ _ _).mono ?_; rintro e w' ⟨rfl, rfl⟩)
          go_ret2
          exact ⟨lo, false, rfl, (by intro h; cases h), fun _ q hq => by
            by_cases h3 : q < lo
            · have := hlo.out q h3; omega
            · by_cases h4 : q = lo
              · subst h4; exact he
              · have := hok.lt (i := lo) (j := q) (by omega) hq
                omega, hbel.alloc hbel.size _⟩
      · go_wp2_with (go_at_call 23; refine (less_any _ _ _ _).mono ?_; rintro e w' ⟨rfl, rfl⟩)
        go_ret2
        exact ⟨lo, false, rfl, (by intro h; cases h), fun _ q hq => by have := hlo.out q (by omega); omega, hbel⟩
end Go.Proofs.Qxb6603635a.Or
