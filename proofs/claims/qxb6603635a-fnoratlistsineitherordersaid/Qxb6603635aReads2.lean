import Derived.Test.Qxb6603635aReads
import Derived.Laws.BitsAllLaws
namespace Go.Proofs.Qxb6603635a.Or
open Go.RowKit Go.Deep

/-- What orAtBitsOf hands back. -/
def BitsPost (W : Nat → Int) (B : Nat → Nat) (l i : Nat) (w : World) (e : Ending) (w' : World) : Prop :=
  ∃ add q : Nat, e = .returned (.tuple #[.int .u64 add, .int .i64 q]) ∧ Adds W B l i add ∧ q ≤ l ∧ (∀ r, r < q → W r < (i : Int) + 1) ∧ w' = w

theorem bits_hit {W : Nat → Int} {B : Nat → Nat} {l n i q : Nat} (w : World) (h : LOk W l n) (hq : q < l) (e : W q = (i : Int)) :
    BitsPost W B l i w (.returned (.tuple #[.int .u64 (B q), .int .i64 ((q : Int) + 1)])) w := by
  refine ⟨B q, q + 1, by simp, .inl ⟨q, hq, e, rfl⟩, by omega, fun r hr => ?_, rfl⟩
  by_cases e' : r = q
  · subst e'; omega
  · have := h.lt (i := r) (j := q) (by omega) hq; omega
theorem bits_miss {W : Nat → Int} {B : Nat → Nat} {l n i q : Nat} (w : World) (h : LOk W l n) (hl : q ≤ l) (hlo : ∀ r, r < q → W r < (i : Int)) (hm : q < l → (i : Int) < W q) :
    BitsPost W B l i w (.returned (.tuple #[.int .u64 0, .int .i64 q])) w := by
  refine ⟨0, q, rfl, .inr ⟨?_, rfl⟩, hl, fun r hr => by have := hlo r hr; omega, rfl⟩
  have s : Split W l q i := ⟨hl, hlo, fun r h1 h2 => by
    have h3 := hm (by omega)
    by_cases e : r = q
    · subst e; omega
    · have := h.lt (i := q) (j := r) (by omega) h2; omega⟩
  exact s.not_in h (fun hk => by have := hm hk; omega)

set_option maxHeartbeats 800000 in
theorem bitsOf_any (a : Option Addr) (b off l cap n j i : Nat) (W : Nat → Int) (B : Nat → Nat) (w : World) (hr : PairRow w a b off l (fun i => .int .i64 (W i)) (fun i => .int .u64 (B i : Nat))) (hl : l ≤ 1048576)
    (hok : LOk W l n) (hj : j ≤ l) (hlo : ∀ r, r < j → W r < (i : Int)) :
    Calls Try.prog 14 #[.slice a l cap, .int .i64 j, .int .i64 i] w (BitsPost W B l i w) := by
  obtain ⟨ha, hc⟩ := hr
  have HLO : Hid (∀ r, r < j → W r < (i : Int)) := hlo
  clear hlo
  go_enter Try.func14, Try.ntmps14
  go_wp2
  go_loop [1] (fun t => ∃ q : Nat, q ≤ l ∧ t = .int .i64 q ∧ Hid (∀ r, r < q → W r < (i : Int))) (fun t => l - (intOf t).toNat)
  case atStart => exact ⟨j, hj, rfl, HLO⟩
  case round =>
    obtain ⟨q, hq, rfl, hlo⟩ := hrel
    by_cases hlt : q < l
    · obtain rfl := ha (by omega)
      have g := (hc q hlt).1
      have g2 := (hc q hlt).2
      by_cases h1 : W q < (i : Int)
      · clear hc
        go_wp2
        go_round
        case rel => exact ⟨q + 1, by omega, by go_num, fun r hr => by
          by_cases e : r = q
          · subst e; exact h1
          · exact hlo.out r (by omega)⟩
        case measure => simp [intOf]; omega
      · by_cases h2 : W q = (i : Int)
        · have hb : (W q == (i : Int)) = true := by simp [h2]
          have H2 : Hid (W q = (i : Int)) := h2
          clear hc h2
          go_wp2
          go_ret2
          exact bits_hit w hok hlt H2.out
        · have hb : (W q == (i : Int)) = false := by simp [h2]
          clear hc
          go_wp2
          go_ret2
          exact bits_miss w hok hq hlo.out (fun _ => by omega)
    · clear hc
      go_wp2
      go_ret2
      exact bits_miss w hok hq hlo.out (fun h => absurd h hlt)

theorem runOf_any (f k : Int) (w : World) :
    Calls Try.prog 15 #[.agg #[.int .u64 f, .int .u64 k]] w fun e w' => e = .returned (.tuple #[.int .u64 f, .int .u64 k]) ∧ ∃ q, w' = (w.alloc (.cells #[.int .u64 f, .int .u64 k] 43)).drewN q := by
  go_enter Try.func15, Try.ntmps15
  go_wp2
  go_quiet (fail)
  go_wp2
  go_ret2
  exact ⟨rfl, _, rfl⟩

theorem runOK_in (f k o a want z : Int) (e1 : bits .or .u64 o a = want) (e2 : bits .and .u64 k f = z) (e3 : bits .and .u64 want f = z) (e4 : bits .and .u64 k o = o) (e5 : bits .andNot .u64 k want = 0) (w : World) :
    Calls Try.prog 16 #[.int .u64 f, .int .u64 k, .agg #[.int .u64 f, .int .u64 o], .bool true, .int .u64 a] w fun e w' => e = .returned (.bool true) ∧ w' = w.alloc (.cells #[.int .u64 f, .int .u64 o] 46) := by
  go_enter Try.func16, Try.ntmps16
  go_wp2
  go_ret
  exact ⟨rfl, rfl⟩
theorem runOK_out (f k a : Int) (w : World) :
    Calls Try.prog 16 #[.int .u64 f, .int .u64 k, .agg #[.int .u64 f, .int .u64 k], .bool false, .int .u64 a] w fun e w' => e = .returned (.bool true) ∧ w' = w.alloc (.cells #[.int .u64 f, .int .u64 k] 46) := by
  go_enter Try.func16, Try.ntmps16
  go_wp2
  go_ret
  exact ⟨rfl, rfl⟩

theorem or_lt {a b : Nat} (ha : a < 18446744073709551616) (hb : b < 18446744073709551616) : a ||| b < 18446744073709551616 := Nat.or_lt_two_pow (n := 64) ha hb
theorem and_lt {a b : Nat} (ha : a < 18446744073709551616) : a &&& b < 18446744073709551616 := Nat.lt_of_le_of_lt Nat.and_le_left ha

/-- The model's check of one run behind an OR that is Good: a run of at. -/
theorem runOK_yes {p : Prop} (F K K' add : Nat) (hF : F < 18446744073709551616) (hK : K < 18446744073709551616) (hK' : K' < 18446744073709551616) (ha : add < 18446744073709551616) (h : Good F K K' add p) (w : World) :
    Calls Try.prog 16 #[.int .u64 (F : Nat), .int .u64 (K' : Nat), .agg #[.int .u64 (F : Nat), .int .u64 (K : Nat)], .bool true, .int .u64 (add : Nat)] w fun e w' => e = .returned (.bool true) ∧ w' = w.alloc (.cells #[.int .u64 (F : Nat), .int .u64 (K : Nat)] 46) := by
  have hw := or_lt hK ha
  exact runOK_in (F : Nat) (K' : Nat) (K : Nat) (add : Nat) ((K ||| add : Nat) : Int) ((K' &&& F : Nat) : Int) (u64_or_nat K add hK ha) (u64_and_nat K' F hK' hF)
    (by rw [u64_and_nat _ F hw hF, h.found]) (by rw [u64_and_nat K' K hK' hK, h.keeps]) (by rw [u64_andNot_nat K' _ hK' hw, h.within hK' hw]; rfl) w
/-- .. and a run not in at. -/
theorem runOK_no {p : Prop} (F K K' add : Nat) (h : Good F K K' add p) (hp : ¬ p) (w : World) :
    Calls Try.prog 16 #[.int .u64 (F : Nat), .int .u64 (K' : Nat), .agg #[.int .u64 (F : Nat), .int .u64 (K : Nat)], .bool false, .int .u64 (add : Nat)] w fun e w' => e = .returned (.bool true) ∧ w' = w.alloc (.cells #[.int .u64 (F : Nat), .int .u64 (K : Nat)] 46) := by
  have e := h.out hp
  subst e
  exact runOK_out (F : Nat) (K' : Nat) (add : Nat) w
end Go.Proofs.Qxb6603635a.Or
