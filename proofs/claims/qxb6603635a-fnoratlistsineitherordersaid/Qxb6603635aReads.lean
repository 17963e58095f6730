import Derived.Test.Qxb6603635aRows
import Derived.Test.Qxb6603635aPlain
import Derived.WalkKit
import Derived.WalkSpells
import Derived.Deep.OwnRows
import Derived.Deep.QuietTactic
import Derived.BigQuiet
import Derived.Below
namespace Go.Proofs.Qxb6603635a.Or
open Go.RowKit Go.Deep

/-- A row of ints that is read: m cells from off on in block b. -/
def IntRow (w : World) (a : Option Addr) (b off m : Nat) (A : Nat → Int) : Prop :=
  (0 < m → a = some ⟨b, off, none⟩) ∧ ∀ i, i < m → w.cell? ⟨b, off + i, none⟩ = some (.int .i64 (A i))
/-- A row of pairs that is read. -/
def PairRow (w : World) (a : Option Addr) (b off l : Nat) (X Y : Nat → Value) : Prop :=
  (0 < l → a = some ⟨b, off, none⟩) ∧ ∀ i, i < l → w.cell? ⟨b, off + i * 2, none⟩ = some (X i) ∧ w.cell? ⟨b, off + i * 2 + 1, none⟩ = some (Y i)

theorem IntRow.drewN {w : World} {a : Option Addr} {b off m : Nat} {A : Nat → Int} (h : IntRow w a b off m A) (q : Nat) : IntRow (w.drewN q) a b off m A := h
theorem PairRow.drewN {w : World} {a : Option Addr} {b off m : Nat} {A B : Nat → Value} (h : PairRow w a b off m A B) (q : Nat) : PairRow (w.drewN q) a b off m A B := h

/-- A test that tells: where it says yes, P holds; the world has drawn at most. -/
def Tells (P : Prop) (w : World) (e : Ending) (w' : World) : Prop := ∃ r : Bool, e = .returned (.bool r) ∧ (r = true → P) ∧ ∃ q, w' = w.drewN q
theorem Tells.no {P : Prop} {w : World} {q : Nat} : Tells P w (.returned (.bool false)) (w.drewN q) := ⟨false, rfl, by simp, q, rfl⟩
theorem Tells.no2 {P : Prop} {w : World} {q r : Nat} : Tells P w (.returned (.bool false)) ((w.drewN q).drewN r) := ⟨false, rfl, by simp, _, World.drewN_drewN _ _ _⟩
theorem Tells.yes {P : Prop} {w : World} {q : Nat} (h : P) : Tells P w (.returned (.bool true)) (w.drewN q) := ⟨true, rfl, fun _ => h, q, rfl⟩

set_option maxHeartbeats 800000 in
theorem atOK_any (a : Option Addr) (b off m cap n : Nat) (A : Nat → Int) (w : World) (hr : IntRow w a b off m A) (hm : m ≤ 1048576) :
    Calls Try.prog 6 #[.slice a m cap, .int .i64 n] w (Tells (LOk A m n) w) := by
  obtain ⟨ha, hc⟩ := hr
  go_enter Try.func6, Try.ntmps6
  go_wp2
  go_loopw [5] (fun i wr => ∃ k : Nat, k ≤ m ∧ i = .int .i64 k ∧ LOk A k n ∧ ∃ q, wr = w.drewN q) (fun i _ => m - (intOf i).toNat)
  case atStart => exact ⟨0, Nat.zero_le _, rfl, LOk.zero _ _, 0, rfl⟩
  case round =>
    obtain ⟨k, hk, rfl, hok, q, rfl⟩ := hrel
    by_cases hlt : k < m
    · obtain rfl := ha (by omega)
      have g := hc k hlt
      by_cases h1 : A k < 0
      · clear hc
        go_wp2
        go_ret
        exact Tells.no
      · by_cases h2 : (n : Int) ≤ A k
        · clear hc
          go_wp2
          go_ret
          exact Tells.no
        · by_cases hk0 : k = 0
          · have hd : decide (0 < k) = false := decide_eq_false (by omega)
            have H0 : Hid (k = 0) := hk0
            clear hc hk0
            go_wp2
            go_quiet (fail)
            go_wp2
            go_roundw
            case rel => exact ⟨k + 1, by omega, by go_num, hok.succ (by omega) (by omega) (fun h => absurd H0.out (by omega)), _, rfl⟩
            case measure => simp [intOf]; omega
          · obtain ⟨p, rfl⟩ : ∃ p, k = p + 1 := ⟨k - 1, by omega⟩
            have g' := hc p (by omega)
            have hp : (0 : Int) < ((p + 1 : Nat) : Int) := by omega
            have e1 : (((p + 1 : Nat) : Int) - 1) = (p : Int) := by omega
            have hpm : (p : Int) < (m : Int) := by omega
            clear hc
            go_wp2
            go_quiet (fail)
            go_wp2
            · go_ret
              exact Tells.no2
            · go_roundw
              case rel => exact ⟨p + 2, by omega, by go_num, hok.succ (by omega) (by omega) (fun _ => by simpa using ‹A p < A (p + 1)›), _, rfl⟩
              case measure => simp [intOf]; omega
    · go_wp2
      go_ret
      have : k = m := by omega
      subst this
      exact Tells.yes hok

set_option maxHeartbeats 800000 in
theorem listOK_any (a : Option Addr) (b off l cap n : Nat) (W : Nat → Int) (Y : Nat → Value) (w : World) (hr : PairRow w a b off l (fun i => .int .i64 (W i)) Y) (hm : l ≤ 1048576) :
    Calls Try.prog 8 #[.slice a l cap, .int .i64 n] w (Tells (LOk W l n) w) := by
  obtain ⟨ha, hc⟩ := hr
  go_enter Try.func8, Try.ntmps8
  go_wp2
  go_loopw [5] (fun i wr => ∃ k : Nat, k ≤ l ∧ i = .int .i64 k ∧ LOk W k n ∧ ∃ q, wr = w.drewN q) (fun i _ => l - (intOf i).toNat)
  case atStart => exact ⟨0, Nat.zero_le _, rfl, LOk.zero _ _, 0, rfl⟩
  case round =>
    obtain ⟨k, hk, rfl, hok, q, rfl⟩ := hrel
    by_cases hlt : k < l
    · obtain rfl := ha (by omega)
      have g := (hc k hlt).1
      by_cases h1 : W k < 0
      · clear hc
        go_wp2
        go_ret
        exact Tells.no
      · by_cases h2 : (n : Int) ≤ W k
        · clear hc
          go_wp2
          go_ret
          exact Tells.no
        · by_cases hk0 : k = 0
          · have hd : decide (0 < k) = false := decide_eq_false (by omega)
            have H0 : Hid (k = 0) := hk0
            clear hc hk0
            go_wp2
            go_quiet (fail)
            go_wp2
            go_roundw
            case rel => exact ⟨k + 1, by omega, by go_num, hok.succ (by omega) (by omega) (fun h => absurd H0.out (by omega)), _, rfl⟩
            case measure => simp [intOf]; omega
          · obtain ⟨p, rfl⟩ : ∃ p, k = p + 1 := ⟨k - 1, by omega⟩
            have g' := (hc p (by omega)).1
            have hp : (0 : Int) < ((p + 1 : Nat) : Int) := by omega
            have e1 : (((p + 1 : Nat) : Int) - 1) = (p : Int) := by omega
            have hpm : (p : Int) < (l : Int) := by omega
            clear hc
            go_wp2
            go_quiet (fail)
            go_wp2
            · go_ret
              exact Tells.no2
            · go_roundw
              case rel => exact ⟨p + 2, by omega, by go_num, hok.succ (by omega) (by omega) (fun _ => by simpa using ‹W p < W (p + 1)›), _, rfl⟩
              case measure => simp [intOf]; omega
    · go_wp2
      go_ret
      have : k = l := by omega
      subst this
      exact Tells.yes hok

/-- Of the first i runs those whose word is not in at have found 0. -/
def FOk (A : Nat → Int) (m : Nat) (F : Nat → Nat) (i : Nat) : Prop := ∀ j, j < i → ¬ In A m j → F j = 0
theorem FOk.hit {A : Nat → Int} {m : Nat} {F : Nat → Nat} {i k : Nat} (h : FOk A m F i) (hk : k < m) (e : A k = (i : Int)) : FOk A m F (i + 1) := fun j hj hn => by
  by_cases e' : j = i
  · subst e'; exact absurd ⟨k, hk, e⟩ hn
  · exact h j (by omega) hn
theorem FOk.miss {A : Nat → Int} {m : Nat} {F : Nat → Nat} {i : Nat} (h : FOk A m F i) (e : F i = 0) : FOk A m F (i + 1) := fun j hj hn => by
  by_cases e' : j = i
  · subst e'; exact e
  · exact h j (by omega) hn

set_option maxHeartbeats 800000 in
theorem foundOK_any (a a' : Option Addr) (b off n cap b' off' m cap' : Nat) (F : Nat → Nat) (Y : Nat → Value) (A : Nat → Int) (w : World)
    (hr : PairRow w a b off n (fun i => .int .u64 (F i : Nat)) Y) (hr' : IntRow w a' b' off' m A) (hn : n ≤ 1048576) (hm : m ≤ 1048576) (hA : LOk A m n) :
    Calls Try.prog 7 #[.slice a n cap, .slice a' m cap'] w (Tells (FOk A m F n) w) := by
  obtain ⟨ha, hc⟩ := hr
  obtain ⟨ha', hc'⟩ := hr'
  go_enter Try.func7, Try.ntmps7
  go_wp2
  go_loop [5, 6] (fun k i => ∃ kn j : Nat, j ≤ n ∧ k = .int .i64 kn ∧ i = .int .i64 j ∧ Split A m kn j ∧ FOk A m F j) (fun _ i => n - (intOf i).toNat)
  case atStart => exact ⟨0, 0, Nat.zero_le _, rfl, rfl, Split.zero hA, fun _ h => absurd h (Nat.not_lt_zero _)⟩
  case round =>
    obtain ⟨k, j, hj, rfl, rfl, hs, hf⟩ := hrel
    have hkm := hs.1
    by_cases hlt : j < n
    · obtain rfl := ha (by omega)
      have g := (hc j hlt).1
      by_cases hk : k < m
      · obtain rfl := ha' (by omega)
        have g' := hc' k hk
        by_cases he : A k = (j : Int)
        · have hb : (A k == (j : Int)) = true := by simp [he]
          have HE : Hid (A k = (j : Int)) := he
          clear hc hc' he
          go_wp2
          go_round
          case rel => exact ⟨k + 1, j + 1, by omega, by go_num, by go_num, hs.hit hA hk HE.out, hf.hit hk HE.out⟩
          case measure => simp [intOf]; omega
        · have hb : (A k == (j : Int)) = false := by simp [he]
          clear hc hc'
          by_cases hz : F j = 0
          · have hz' : ((F j : Int) != 0) = false := by simp [hz]
            have HZ : Hid (F j = 0) := hz
            clear hz
            go_wp2
            go_round
            case rel => exact ⟨k, j + 1, by omega, by go_num, by go_num, hs.miss hA (fun _ => he), hf.miss HZ.out⟩
            case measure => simp [intOf]; omega
          · have hz' : ((F j : Int) != 0) = true := by simp [hz]
            go_wp2
            go_ret
            exact Tells.no (q := 0)
      · clear hc hc'
        by_cases hz : F j = 0
        · have hz' : ((F j : Int) != 0) = false := by simp [hz]
          have HZ : Hid (F j = 0) := hz
          clear hz
          go_wp2
          go_round
          case rel => exact ⟨k, j + 1, by omega, by go_num, by go_num, hs.miss hA (fun h => absurd h hk), hf.miss HZ.out⟩
          case measure => simp [intOf]; omega
        · have hz' : ((F j : Int) != 0) = true := by simp [hz]
          go_wp2
          go_ret
          exact Tells.no (q := 0)
    · clear hc hc'
      go_wp2
      go_ret
      have : j = n := by omega
      subst this
      exact Tells.yes (q := 0) hf
end Go.Proofs.Qxb6603635a.Or
