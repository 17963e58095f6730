import Derived.Lib.Strings
import Derived.Lib.IndexBytes
/- Plain mathematics: runs of digits and their value. -/
namespace Go.Proofs.Qxb6604227a.Cond
open Go

/-- Byte i of s (0 beyond its end). -/
def bt (s : ByteArray) (i : Nat) : Nat := (s.data.toList.getD i 0).toNat
theorem bt_get (s : ByteArray) (i : Nat) (h : i < s.size) : bt s i = s[i].toNat := by
  have := Lib.data_getElem? s i h
  simp [bt, List.getD, this]
def IsDig (c : Nat) : Prop := 48 ≤ c ∧ c ≤ 57

/-- The digits behind the point are just the places 1 .. r. -/
def Run (s : ByteArray) (r : Nat) : Prop := 1 + r ≤ s.size ∧ (∀ j, 1 ≤ j → j ≤ r → IsDig (bt s j)) ∧ (1 + r < s.size → ¬ IsDig (bt s (1 + r)))

theorem run_upto (s : ByteArray) (n : Nat) : ∃ r, r ≤ n ∧ (∀ j, 1 ≤ j → j ≤ r → IsDig (bt s j)) ∧ (r < n → ¬ IsDig (bt s (1 + r))) := by
  induction n with
  | zero => exact ⟨0, by omega, fun j h1 h2 => by omega, fun h => by omega⟩
  | succ n ih =>
    obtain ⟨r, h1, h2, h3⟩ := ih
    by_cases e : r = n
    · subst e
      by_cases hd : IsDig (bt s (1 + r))
      · refine ⟨r + 1, by omega, fun j hj hj' => ?_, fun h => by omega⟩
        by_cases e' : j = r + 1
        · subst e'; rw [Nat.add_comm]; exact hd
        · exact h2 j hj (by omega)
      · exact ⟨r, by omega, h2, fun _ => hd⟩
    · exact ⟨r, by omega, h2, fun _ => h3 (by omega)⟩
theorem run_ex (s : ByteArray) (h : 0 < s.size) : ∃ r, Run s r := by
  obtain ⟨r, h1, h2, h3⟩ := run_upto s (s.size - 1)
  exact ⟨r, by omega, h2, fun h => h3 (by omega)⟩

/-- The digit at place j; 0 beyond the run. -/
def D (s : ByteArray) (r j : Nat) : Nat := if j ≤ r then bt s j - 48 else 0
/-- The value of the first k places. -/
def N (s : ByteArray) (r : Nat) : Nat → Nat
  | 0 => 0
  | k + 1 => N s r k * 10 + D s r (k + 1)
theorem D_le {s : ByteArray} {r : Nat} (h : Run s r) (j : Nat) (hj : 1 ≤ j) : D s r j ≤ 9 := by
  unfold D
  split
  · rename_i hr
    have := h.2.1 j hj hr
    unfold IsDig at this
    omega
  · omega
theorem N_lt {s : ByteArray} {r : Nat} (h : Run s r) (k : Nat) : N s r k < 10 ^ k := by
  induction k with
  | zero => simp [N]
  | succ k ih =>
    have := D_le h (k + 1) (by omega)
    simp only [N, Nat.pow_succ]
    omega
theorem N_zero {s : ByteArray} {r k : Nat} (hk : r ≤ k) : N s r (k + 1) = N s r k * 10 := by
  have : D s r (k + 1) = 0 := by unfold D; rw [if_neg (by omega)]
  simp [N, this]

/-- What 'decimal' computes of the first k bytes. -/
def dec (t : ByteArray) : Nat → Nat
  | 0 => 0
  | k + 1 => dec t k * 10 + (bt t k - 48)
theorem dec_lt {t : ByteArray} {k : Nat} (h : ∀ j, j < k → IsDig (bt t j)) : dec t k < 10 ^ k := by
  induction k with
  | zero => simp [dec]
  | succ k ih =>
    have h1 := ih fun j hj => h j (by omega)
    have h2 := h k (by omega)
    unfold IsDig at h2
    simp only [dec, Nat.pow_succ]
    omega
theorem bt_cut (s : ByteArray) (k j : Nat) (hj : j < k) (hk : 1 + k ≤ s.size) : bt (s.extract 1 (1 + k)) j = bt s (1 + j) := by
  have h1 : j < (s.extract 1 (1 + k)).size := by simp; omega
  rw [bt_get _ _ h1, bt_get _ _ (by omega)]
  rw [ByteArray.getElem_extract]
theorem dec_cut {s : ByteArray} {r k : Nat} (hk : k ≤ r) (hr : 1 + r ≤ s.size) (j : Nat) (hj : j ≤ k) : dec (s.extract 1 (1 + k)) j = N s r j := by
  induction j with
  | zero => rfl
  | succ j ih =>
    have e : D s r (j + 1) = bt s (1 + j) - 48 := by unfold D; rw [if_pos (by omega), Nat.add_comm]
    simp only [dec, N, e]
    rw [ih (by omega), bt_cut s k j (by omega) (by omega)]

/-- The place-weight sum: behind k places. -/
theorem weight_step (n d k : Nat) (hk : k ≤ 8) : n * 10 ^ (9 - k) + d * (100000000 / 10 ^ k) = (n * 10 + d) * 10 ^ (9 - (k + 1)) := by
  have : k = 0 ∨ k = 1 ∨ k = 2 ∨ k = 3 ∨ k = 4 ∨ k = 5 ∨ k = 6 ∨ k = 7 ∨ k = 8 := by omega
  rcases this with rfl | rfl | rfl | rfl | rfl | rfl | rfl | rfl | rfl <;> simp <;> omega
theorem weight_div (k : Nat) : 100000000 / 10 ^ k / 10 = 100000000 / 10 ^ (k + 1) := by rw [Nat.div_div_eq_div_mul, Nat.pow_succ]
end Go.Proofs.Qxb6604227a.Cond
