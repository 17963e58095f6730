import Derived.Test.Qxb6604458aRows
import Derived.Test.Qxb6604458aPlain
import Derived.WalkKit
import Derived.WalkSpells
import Derived.Deep.QuietTactic
import Derived.BigQuiet
import Derived.Below
namespace Go.Proofs.Qxb6604458a.Num
open Go.RowKit
set_option linter.unusedVariables false

/-- A test that tells; the world is as it was. -/
def Tells (P : Prop) (w : World) (e : Ending) (w' : World) : Prop := ∃ r : Bool, e = .returned (.bool r) ∧ (r = true → P) ∧ w' = w
theorem Tells.no {P : Prop} {w : World} : Tells P w (.returned (.bool false)) w := ⟨false, rfl, (by intro h; cases h), rfl⟩
theorem Tells.yes {P : Prop} {w : World} (h : P) : Tells P w (.returned (.bool true)) w := ⟨true, rfl, fun _ => h, rfl⟩

def Digs (s : ByteArray) (k : Nat) : Prop := ∀ i, i < k → 48 ≤ bt s i ∧ bt s i ≤ 57

theorem isDigits_any (s : ByteArray) (hs : s.size ≤ 1048576) (w : World) : Calls Try.prog 23 #[.string s] w (Tells (Digs s s.size) w) := by
  go_enter Try.func23, Try.ntmps23
  go_wp2
  go_loop [3] (fun i => ∃ k : Nat, k ≤ s.size ∧ i = .int .i64 k ∧ Hid (Digs s k)) (fun i => s.size - (intOf i).toNat)
  case atStart => exact ⟨0, Nat.zero_le _, rfl, fun _ h => absurd h (Nat.not_lt_zero _)⟩
  case round =>
    obtain ⟨k, hk, rfl, hall⟩ := hrel
    by_cases hlt : k < s.size
    · have hb := bt_get s k hlt
      by_cases h1 : (s[k].toNat : Int) < 48
      · clear hb
        go_wp2
        go_ret
        exact Tells.no
      · by_cases h2 : (57 : Int) < (s[k].toNat : Int)
        · clear hb
          go_wp2
          go_ret
          exact Tells.no
        · have HB : Hid (bt s k = s[k].toNat) := hb
          clear hb
          go_wp2
          go_round
          case rel => exact ⟨k + 1, by omega, by go_num, fun j hj => by
            by_cases e : j = k
            · subst e; have := HB.out; omega
            · exact hall.out j (by omega)⟩
          case measure => simp [intOf]; omega
    · obtain rfl : k = s.size := by omega
      go_wp2
      go_ret
      exact Tells.yes hall.out

set_option maxHeartbeats 800000 in
theorem canon_any (n : Bool) (a f : ByteArray) (ha : a.size ≤ 1048576) (hf : f.size ≤ 1048576) (w : World) : Calls Try.prog 7 #[.bool n, .string a, .string f] w (Tells (Canon a f) w) := by
  go_enter Try.func7, Try.ntmps7
  go_wp2_with fail
  refine (isDigits_any a ha _).mono ?_
  rintro e w1 ⟨r, rfl, hP, hw⟩
  rw [hw]; clear hw w1
  cases r with
  | false =>
    go_wp2
    go_ret
    exact Tells.no
  | true =>
  have H1 : Hid (Digs a a.size) := hP rfl
  clear hP
  go_wp2_with fail
  refine (isDigits_any f hf _).mono ?_
  rintro e w1 ⟨r, rfl, hP, hw⟩
  rw [hw]; clear hw w1
  cases r with
  | false =>
    go_wp2
    go_ret
    exact Tells.no
  | true =>
  have H2 : Hid (Digs f f.size) := hP rfl
  clear hP
  by_cases hz : 0 < a.size
  · by_cases hc : bt a 0 = 48
    · have hb : ((a[0].toNat : Int) == 48) = true := by rw [← bt_get a 0 hz]; simp [hc]
      clear hc
      go_wp2
      go_ret
      exact Tells.no
    · have hb : ((a[0].toNat : Int) == 48) = false := by rw [← bt_get a 0 hz]; exact beq_eq_false_iff_ne.2 (by omega)
      have H3 : Hid (0 < a.size → bt a 0 ≠ 48) := fun _ => hc
      clear hc
      by_cases hz2 : 0 < f.size
      · have hl : f.size - 1 < f.size := by omega
        have em : ((f.size : Int) - 1) = ((f.size - 1 : Nat) : Int) := by omega
        by_cases hc2 : bt f (f.size - 1) = 48
        · have hb2 : ((f[f.size - 1].toNat : Int) == 48) = true := by rw [← bt_get f _ hl]; simp [hc2]
          clear hc2
          go_wp2
          go_ret
          exact Tells.no
        · have hb2 : ((f[f.size - 1].toNat : Int) == 48) = false := by rw [← bt_get f _ hl]; exact beq_eq_false_iff_ne.2 (by omega)
          have H4 : Hid (bt f (f.size - 1) ≠ 48) := hc2
          clear hc2
          go_wp2
          all_goals go_ret
          all_goals first
            | exact Tells.no
            | exact Tells.yes ⟨H1.out, H2.out, H3.out, fun _ => H4.out⟩
      · have hd2 : decide (0 < f.size) = false := decide_eq_false hz2
        go_wp2
        all_goals go_ret
        all_goals first
          | exact Tells.no
          | exact Tells.yes ⟨H1.out, H2.out, H3.out, fun h => absurd h hz2⟩
  · have hd1 : decide (0 < a.size) = false := decide_eq_false hz
    have H3 : Hid (0 < a.size → bt a 0 ≠ 48) := fun h => absurd h hz
    by_cases hz2 : 0 < f.size
    · have hl : f.size - 1 < f.size := by omega
      have em : ((f.size : Int) - 1) = ((f.size - 1 : Nat) : Int) := by omega
      by_cases hc2 : bt f (f.size - 1) = 48
      · have hb2 : ((f[f.size - 1].toNat : Int) == 48) = true := by rw [← bt_get f _ hl]; simp [hc2]
        clear hc2
        go_wp2
        go_ret
        exact Tells.no
      · have hb2 : ((f[f.size - 1].toNat : Int) == 48) = false := by rw [← bt_get f _ hl]; exact beq_eq_false_iff_ne.2 (by omega)
        have H4 : Hid (bt f (f.size - 1) ≠ 48) := hc2
        clear hc2
        go_wp2
        all_goals go_ret
        all_goals first
          | exact Tells.no
          | exact Tells.yes ⟨H1.out, H2.out, H3.out, fun _ => H4.out⟩
    · have hd2 : decide (0 < f.size) = false := decide_eq_false hz2
      go_wp2
      all_goals go_ret
      all_goals first
        | exact Tells.no
        | exact Tells.yes ⟨H1.out, H2.out, H3.out, fun h => absurd h hz2⟩
end Go.Proofs.Qxb6604458a.Num
