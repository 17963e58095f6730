import Derived.Test.Qxb6604227aRows
import Derived.WalkKit
import Derived.WalkSpells
import Derived.Deep.QuietTactic
import Derived.BigQuiet
import Derived.RowKit3
namespace Go.Proofs.Qxb6604227a.Cond
open Go.RowKit
set_option linter.unusedVariables false

def digB (c : Int) : Bool := decide (48 ≤ c) && decide (c ≤ 57)

theorem isDigit_any (c : Int) (w : World) : Calls Try.prog 18 #[.int .u8 c] w fun e w' => e = .returned (.bool (digB c)) ∧ w' = w := by
  by_cases h1 : 48 ≤ c
  · have e : digB c = decide (c ≤ 57) := by simp [digB, h1]
    rw [e]
    go_enter Try.func18, Try.ntmps18
    go_wp2
    go_ret
    exact ⟨rfl, rfl⟩
  · have e : digB c = false := by simp [digB, h1]
    rw [e]
    have hd : decide (48 ≤ c) = false := decide_eq_false h1
    go_enter Try.func18, Try.ntmps18
    go_wp2
    go_ret
    exact ⟨rfl, rfl⟩
theorem zzIsDigit_any (c : Int) (w : World) : Calls Try.prog 11 #[.int .u8 c] w fun e w' => e = .returned (.bool (digB c)) ∧ w' = w := by
  by_cases h1 : 48 ≤ c
  · have e : digB c = decide (c ≤ 57) := by simp [digB, h1]
    rw [e]
    go_enter Try.func11, Try.ntmps11
    go_wp2
    go_ret
    exact ⟨rfl, rfl⟩
  · have e : digB c = false := by simp [digB, h1]
    rw [e]
    have hd : decide (48 ≤ c) = false := decide_eq_false h1
    go_enter Try.func11, Try.ntmps11
    go_wp2
    go_ret
    exact ⟨rfl, rfl⟩

/-- No 'd' among the first k bytes. -/
def NoD (s : ByteArray) (k : Nat) : Prop := ∀ i (h : i < s.size), i < k → (s[i].toNat : Int) ≠ 100
theorem NoD.zero (s : ByteArray) : NoD s 0 := fun _ _ h => absurd h (Nat.not_lt_zero _)
theorem NoD.succ {s : ByteArray} {k : Nat} (h : NoD s k) (hk : k < s.size) (e : (s[k].toNat : Int) ≠ 100) : NoD s (k + 1) := fun i hi hik => by
  by_cases e' : i = k
  · subst e'; exact e
  · exact h i hi (by omega)
theorem NoD.hit {s : ByteArray} {k : Nat} (hk : k < s.size) (e : (s[k].toNat : Int) = 100) : ¬ NoD s (k + 1) := fun h => h k hk (by omega) e
theorem NoD.more {s : ByteArray} {k j : Nat} (h : ¬ NoD s k) (hj : k ≤ j) : ¬ NoD s j := fun h' => h fun i hi hik => h' i hi (by omega)

/-- A Bool that says whether the first k bytes hold no 'd'. -/
def Says (s : ByteArray) (k : Nat) (r : Bool) : Prop := (r = true → NoD s k) ∧ (r = false → ¬ NoD s k)
def FitsPost (s : ByteArray) (w : World) (e : Ending) (w' : World) : Prop := ∃ r : Bool, e = .returned (.bool r) ∧ Says s s.size r ∧ ∃ q, w' = w.drewN q
theorem FitsPost.no {s : ByteArray} {w : World} {k q : Nat} (hk : k < s.size) (e : (s[k].toNat : Int) = 100) : FitsPost s w (.returned (.bool false)) (w.drewN q) :=
  ⟨false, rfl, ⟨(fun h => by cases h), fun _ => NoD.more (NoD.hit hk e) (by omega)⟩, q, rfl⟩
theorem FitsPost.yes {s : ByteArray} {w : World} {q : Nat} (h : NoD s s.size) : FitsPost s w (.returned (.bool true)) (w.drewN q) :=
  ⟨true, rfl, ⟨fun _ => h, (fun h => by cases h)⟩, q, rfl⟩

set_option maxHeartbeats 800000 in
theorem fits_self (s : ByteArray) (w : World) (hs : s.size ≤ 1048576) : Calls Try.prog 16 #[.string s, .string s] w (FitsPost s w) := by
  go_enter Try.func16, Try.ntmps16
  go_wp2
  go_loopw [13] (fun i wr => ∃ k : Nat, k ≤ s.size ∧ i = .int .i64 k ∧ Hid (NoD s k) ∧ ∃ q, wr = w.drewN q) (fun i _ => s.size - (intOf i).toNat)
  case atStart => exact ⟨0, Nat.zero_le _, rfl, NoD.zero s, 0, rfl⟩
  case round =>
    obtain ⟨k, hk, rfl, hno, q, rfl⟩ := hrel
    by_cases hlt : k < s.size
    · by_cases h1 : (s[k].toNat : Int) = 100
      · have b1 : ((s[k].toNat : Int) == 100) = true := by simp [h1]
        have hd : digB (s[k].toNat : Int) = false := by rw [h1]; decide
        have H1 : Hid ((s[k].toNat : Int) = 100) := h1
        clear h1
        go_wp2_with (go_at_call 18; refine (isDigit_any _ _).mono ?_; rintro e w' ⟨rfl, rfl⟩)
        go_ret
        exact FitsPost.no hlt H1.out
      · have b1 : ((s[k].toNat : Int) == 100) = false := by simp [h1]
        by_cases h2 : (s[k].toNat : Int) = 84
        · have b2 : ((s[k].toNat : Int) == 84) = true := by simp [h2]
          have b3 : ((s[k].toNat : Int) != 84) = false := by simp [h2]
          have H1 : Hid ((s[k].toNat : Int) ≠ 100) := h1
          clear h1 h2
          go_wp2
          go_roundw
          case rel => exact ⟨k + 1, by omega, by go_num, hno.out.succ hlt H1.out, q, rfl⟩
          case measure => simp [intOf]; omega
        · have b2 : ((s[k].toNat : Int) == 84) = false := by simp [h2]
          have H1 : Hid ((s[k].toNat : Int) ≠ 100) := h1
          have hlt' : (k : Int) < (s.size : Int) := by omega
          clear h1 h2
          go_wp2
          go_quiet (fail)
          go_wp2
          go_roundw
          case rel => exact ⟨k + 1, by omega, by go_num, hno.out.succ hlt H1.out, _, rfl⟩
          case measure => simp [intOf]; omega
    · go_wp2
      go_ret
      obtain rfl : k = s.size := by omega
      exact FitsPost.yes hno.out
theorem zzFits_self (s : ByteArray) (w : World) (hs : s.size ≤ 1048576) : Calls Try.prog 14 #[.string s, .string s] w (FitsPost s w) := by
  go_enter Try.func14, Try.ntmps14
  go_wp2_with fail
  refine (fits_self s _ hs).mono ?_
  rintro e w' ⟨r, rfl, hr, q, rfl⟩
  have HR : Hid (Says s s.size r) := hr
  clear hr
  go_wp2
  go_ret
  exact ⟨r, rfl, HR.out, q, rfl⟩

theorem bytes_fits (s : ByteArray) (hs : s.size ≤ maxLen) (w : World) : Calls Try.prog 13 #[.string s] w fun e w' => e = .returned (.bool (decide (s.size ≤ 1048576))) ∧ w' = w := by
  unfold maxLen at hs
  by_cases h : s.size ≤ 1048576
  · have e : decide (s.size ≤ 1048576) = true := decide_eq_true h
    rw [e]
    go_enter Try.func13, Try.ntmps13
    go_wp2
    go_ret
    exact ⟨rfl, rfl⟩
  · have e : decide (s.size ≤ 1048576) = false := decide_eq_false h
    rw [e]
    go_enter Try.func13, Try.ntmps13
    go_wp2
    go_ret
    exact ⟨rfl, rfl⟩

theorem grown_dr (w : World) (q : Nat) : Grown w (w.drewN q) := Grown.refl w

set_option maxHeartbeats 400000 in
theorem law_fits (s : ByteArray) (hs : s.size ≤ maxLen) (w : World) : Calls Try.prog 5 #[.string s] w fun e w' => e = .returned (.bool true) ∧ Grown w w' := by
  by_cases h : s.size ≤ 1048576
  · have e : decide (s.size ≤ 1048576) = true := decide_eq_true h
    go_enter Try.func5, Try.ntmps5
    go_wp2_with (go_at_call 13; refine (bytes_fits s hs _).mono ?_; rintro e w' ⟨rfl, rfl⟩)
    go_loop [3, 4] (fun t i => ∃ (b : Bool) (k : Nat), k ≤ s.size ∧ t = .bool b ∧ i = .int .i64 k ∧ Hid (Says s k (!b))) (fun _ i => s.size - (intOf i).toNat)
    case atStart => exact ⟨false, 0, Nat.zero_le _, rfl, rfl, ⟨fun _ => NoD.zero s, (fun h => by cases h)⟩⟩
    case round =>
      obtain ⟨b, k, hk, rfl, rfl, hb⟩ := hrel
      by_cases hlt : k < s.size
      · by_cases h1 : (s[k].toNat : Int) = 100
        · have b1 : ((s[k].toNat : Int) == 100) = true := by simp [h1]
          have H1 : Hid ((s[k].toNat : Int) = 100) := h1
          clear h1
          go_wp2_with fail
          go_round
          case rel => exact ⟨true, k + 1, by omega, rfl, by go_num, ⟨(fun h => by cases h), fun _ => NoD.hit hlt H1.out⟩⟩
          case measure => simp [intOf]; omega
        · have b1 : ((s[k].toNat : Int) == 100) = false := by simp [h1]
          have H1 : Hid ((s[k].toNat : Int) ≠ 100) := h1
          clear h1
          go_wp2_with fail
          go_round
          case rel => exact ⟨b, k + 1, by omega, rfl, by go_num, ⟨fun h => (hb.out.1 h).succ hlt H1.out, fun h => NoD.more (hb.out.2 h) (by omega)⟩⟩
          case measure => simp [intOf]; omega
      · obtain rfl : k = s.size := by omega
        go_wp2_with fail
        refine (zzFits_self s _ h).mono ?_
        rintro e w' ⟨r, rfl, hr, q, rfl⟩
        have hrb : r = !b := by
          have h1 := hr.1
          have h2 := hr.2
          have h3 := hb.out.1
          have h4 := hb.out.2
          revert h1 h2 h3 h4
          cases r <;> cases b <;> simp
        subst hrb
        go_wp2_with fail
        go_ret
        exact ⟨by simp, grown_dr _ _⟩
  · have e : decide (s.size ≤ 1048576) = false := decide_eq_false h
    go_enter Try.func5, Try.ntmps5
    go_wp2_with (go_at_call 13; refine (bytes_fits s hs _).mono ?_; rintro e w' ⟨rfl, rfl⟩)
    go_ret
    exact ⟨rfl, Grown.refl _⟩
end Go.Proofs.Qxb6604227a.Cond
