/- Plain mathematics for the seat: ascending rows of words; the bits that a list adds to a run. No Go in sight. -/
namespace Go.Proofs.Qxb6603635a.Or

/-- The first l words are within n and strictly ascending. -/
def LOk (W : Nat → Int) (l n : Nat) : Prop := ∀ j, j < l → 0 ≤ W j ∧ W j < (n : Int) ∧ (0 < j → W (j - 1) < W j)

theorem LOk.zero (W : Nat → Int) (n : Nat) : LOk W 0 n := fun _ h => absurd h (Nat.not_lt_zero _)
theorem LOk.succ {W : Nat → Int} {k n : Nat} (h : LOk W k n) (h1 : 0 ≤ W k) (h2 : W k < (n : Int)) (h3 : 0 < k → W (k - 1) < W k) : LOk W (k + 1) n := by
  intro j hj
  by_cases e : j = k
  · subst e; exact ⟨h1, h2, h3⟩
  · exact h j (by omega)
theorem LOk.lt {W : Nat → Int} {l n : Nat} (h : LOk W l n) {i j : Nat} (hij : i < j) (hj : j < l) : W i < W j := by
  induction j with
  | zero => omega
  | succ j ih =>
    have h1 := (h (j + 1) hj).2.2 (by omega)
    rw [Nat.add_sub_cancel] at h1
    by_cases e : i = j
    · subst e; exact h1
    · have := ih (by omega) (by omega)
      omega

/-- Position k splits the row at word i: below k all words are less than i, from k on none is. -/
def Split (W : Nat → Int) (l : Nat) (k i : Nat) : Prop := k ≤ l ∧ (∀ q, q < k → W q < (i : Int)) ∧ ∀ q, k ≤ q → q < l → (i : Int) ≤ W q

theorem Split.zero {W : Nat → Int} {l n : Nat} (h : LOk W l n) : Split W l 0 0 := ⟨Nat.zero_le _, fun _ h => absurd h (Nat.not_lt_zero _), fun q _ hq => (h q hq).1⟩
theorem Split.hit {W : Nat → Int} {l n k i : Nat} (h : LOk W l n) (s : Split W l k i) (hk : k < l) (e : W k = (i : Int)) : Split W l (k + 1) (i + 1) := by
  refine ⟨by omega, fun q hq => ?_, fun q h1 h2 => ?_⟩
  · by_cases e' : q = k
    · subst e'; omega
    · have := s.2.1 q (by omega); omega
  · have := h.lt (i := k) (j := q) (by omega) h2; omega
theorem Split.miss {W : Nat → Int} {l n k i : Nat} (h : LOk W l n) (s : Split W l k i) (hm : k < l → W k ≠ (i : Int)) : Split W l k (i + 1) := by
  refine ⟨s.1, fun q hq => ?_, fun q h1 h2 => ?_⟩
  · have := s.2.1 q hq; omega
  · have h3 := s.2.2 k (Nat.le_refl _) (by omega)
    have h4 := hm (by omega)
    by_cases e : q = k
    · subst e; omega
    · have := h.lt (i := k) (j := q) (by omega) h2; omega

/-- Word i stands in the row. -/
def In (W : Nat → Int) (l : Nat) (i : Nat) : Prop := ∃ q, q < l ∧ W q = (i : Int)
theorem Split.in_iff {W : Nat → Int} {l k i : Nat} (s : Split W l k i) : In W l i → ∃ q, k ≤ q ∧ q < l ∧ W q = (i : Int) := by
  rintro ⟨q, hq, e⟩
  refine ⟨q, ?_, hq, e⟩
  by_cases h : k ≤ q
  · exact h
  · have := s.2.1 q (by omega); omega
theorem Split.not_in {W : Nat → Int} {l n k i : Nat} (h : LOk W l n) (s : Split W l k i) (hm : k < l → W k ≠ (i : Int)) : ¬ In W l i := by
  intro hi
  obtain ⟨q, h1, h2, h3⟩ := s.in_iff hi
  have h4 := s.2.2 k (Nat.le_refl _) (by omega)
  have h5 := hm (by omega)
  by_cases e : q = k
  · subst e; omega
  · have := h.lt (i := k) (j := q) (by omega) h2; omega

/-- What the row of blocks (words W, bits B) holds for word i. -/
def Adds (W : Nat → Int) (B : Nat → Nat) (l i add : Nat) : Prop := (∃ q, q < l ∧ W q = (i : Int) ∧ add = B q) ∨ (¬ In W l i ∧ add = 0)
theorem Adds.fn {W : Nat → Int} {B : Nat → Nat} {l n i a b : Nat} (h : LOk W l n) (ha : Adds W B l i a) (hb : Adds W B l i b) : a = b := by
  rcases ha with ⟨q, hq, eq, rfl⟩ | ⟨hn, rfl⟩
  · rcases hb with ⟨r, hr, er, rfl⟩ | ⟨hn, rfl⟩
    · by_cases e : q = r
      · rw [e]
      · rcases Nat.lt_or_gt_of_ne e with h1 | h1
        · have := h.lt h1 hr; omega
        · have := h.lt h1 hq; omega
    · exact absurd ⟨q, hq, eq⟩ hn
  · rcases hb with ⟨r, hr, er, rfl⟩ | ⟨hn', rfl⟩
    · exact absurd ⟨r, hr, er⟩ hn
    · rfl

/-- Run behind ORing add: ofKey was K, is K'; found is F. -/
def Good (F K K' add : Nat) (inAt : Prop) : Prop := ∃ x, K' = K ||| x ∧ x &&& F = add &&& F ∧ x &&& add = x ∧ (¬ inAt → x = 0)

theorem Good.none (F K : Nat) (p : Prop) : Good F K K 0 p := ⟨0, by simp, by simp, by simp, fun _ => rfl⟩
theorem Good.mask (F K add : Nat) (p : Prop) (hF : ¬ p → F = 0) : Good F K (K ||| (add &&& F)) add p := by
  refine ⟨add &&& F, rfl, ?_, ?_, fun h => by rw [hF h]; simp⟩
  · rw [Nat.and_assoc, Nat.and_self]
  · rw [Nat.and_comm, ← Nat.and_assoc, Nat.and_self]
theorem Good.all (F K add : Nat) (p : Prop) (hp : p) : Good F K (K ||| add) add p := ⟨add, rfl, rfl, Nat.and_self _, fun h => absurd hp h⟩
theorem Good.after {F K K1 K2 a b : Nat} {p : Prop} (h1 : Good F K K1 a p) (h2 : Good F K1 K2 b p) : Good F K K2 (a ||| b) p := by
  obtain ⟨x, rfl, e1, e2, e3⟩ := h1
  obtain ⟨y, rfl, f1, f2, f3⟩ := h2
  refine ⟨x ||| y, by rw [Nat.or_assoc], ?_, ?_, fun h => by rw [e3 h, f3 h]; rfl⟩
  · rw [Nat.and_or_distrib_right, Nat.and_or_distrib_right, e1, f1]
  · apply Nat.eq_of_testBit_eq
    intro i
    have e := congrArg (fun z => Nat.testBit z i) e2
    have f := congrArg (fun z => Nat.testBit z i) f2
    simp only [Nat.testBit_and, Nat.testBit_or] at e f ⊢
    revert e f
    cases x.testBit i <;> cases y.testBit i <;> cases a.testBit i <;> cases b.testBit i <;> simp
theorem Good.found {F K K' a : Nat} {p : Prop} (h : Good F K K' a p) : K' &&& F = (K ||| a) &&& F := by
  obtain ⟨x, rfl, e1, _, _⟩ := h
  rw [Nat.and_or_distrib_right, Nat.and_or_distrib_right, e1]
theorem Good.keeps {F K K' a : Nat} {p : Prop} (h : Good F K K' a p) : K' &&& K = K := by
  obtain ⟨x, rfl, _, _, _⟩ := h
  apply Nat.eq_of_testBit_eq; intro i; simp
  cases K.testBit i <;> simp
theorem Good.within {F K K' a : Nat} {p : Prop} (h : Good F K K' a p) (hK : K' < 18446744073709551616) (hw : K ||| a < 18446744073709551616) : K' &&& (18446744073709551615 - (K ||| a)) = 0 := by
  obtain ⟨x, rfl, _, e2, _⟩ := h
  apply Nat.eq_of_testBit_eq; intro i
  have e : 18446744073709551615 - (K ||| a) = 2 ^ 64 - ((K ||| a) + 1) := by omega
  rw [e, Nat.testBit_and, Nat.testBit_two_pow_sub_succ (by omega)]
  have f := congrArg (fun z => Nat.testBit z i) e2
  simp only [Nat.testBit_and, Nat.testBit_or, Nat.zero_testBit] at f ⊢
  revert f
  cases K.testBit i <;> cases x.testBit i <;> cases a.testBit i <;> simp
theorem Good.out {F K K' a : Nat} {p : Prop} (h : Good F K K' a p) (hp : ¬ p) : K' = K := by
  obtain ⟨x, rfl, _, _, e⟩ := h
  rw [e hp]; simp
end Go.Proofs.Qxb6603635a.Or
