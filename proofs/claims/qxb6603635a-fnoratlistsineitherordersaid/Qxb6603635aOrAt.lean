import Derived.Test.Qxb6603635aSearch
import Derived.Test.Qxb6603635aLen
import Derived.RegionTactic
namespace Go.Proofs.Qxb6603635a.Or
open Go.RowKit Go.Deep

/-! ### The plain steps -/
/-- Behind k blocks of the walk. -/
def Walked (W : Nat → Int) (B F K Kk : Nat → Nat) (k : Nat) : Prop :=
  ∀ i, (∀ j, j < k → W j = ((i : Nat) : Int) → Kk i = K i ||| (B j &&& F i)) ∧ ((∀ j, j < k → W j ≠ ((i : Nat) : Int)) → Kk i = K i)
theorem Walked.zero (W : Nat → Int) (B F K : Nat → Nat) : Walked W B F K K 0 := fun _ => ⟨fun _ h => absurd h (Nat.not_lt_zero _), fun _ => rfl⟩
theorem Walked.step {W : Nat → Int} {B F K Kk : Nat → Nat} {k l n p y : Nat} (h : Walked W B F K Kk k) (hok : LOk W l n) (hk : k < l) (hp : W k = (p : Int)) (hy : y = Kk p ||| (B k &&& F p)) :
    Walked W B F K (fun i => if i = p then y else Kk i) (k + 1) := by
  have hpn : ∀ j, j < k → W j ≠ (p : Int) := fun j hj => by have := hok.lt hj hk; omega
  intro i
  by_cases e : i = p
  · subst e
    have h1 := (h i).2 hpn
    refine ⟨fun j hj hj' => ?_, fun hn => absurd hp (hn k (by omega))⟩
    have : j = k := by
      by_cases e : j = k
      · exact e
      · exact absurd hj' (hpn j (by omega))
    subst this
    simp only [if_true]
    rw [hy, h1]
  · simp only [if_neg e]
    refine ⟨fun j hj hj' => ?_, fun hn => (h i).2 fun j hj => hn j (by omega)⟩
    by_cases e' : j = k
    · subst e'; omega
    · exact (h i).1 j (by omega) hj'
theorem Walked.good {W : Nat → Int} {A : Nat → Int} {B F K Kk : Nat → Nat} {l m n : Nat} (h : Walked W B F K Kk l) (hf : FOk A m F n) (i add : Nat) (hi : i < n) (ha : Adds W B l i add) : Good (F i) (K i) (Kk i) add (In A m i) := by
  rcases ha with ⟨q, hq, e, rfl⟩ | ⟨hn, rfl⟩
  · rw [(h i).1 q hq e]
    exact Good.mask _ _ _ _ (hf i hi)
  · rw [(h i).2 fun j hj e => hn ⟨j, hj, e⟩]
    exact Good.none _ _ _

/-- Behind k words of at that were sought. -/
def Sought (W A : Nat → Int) (B K Kk : Nat → Nat) (l k : Nat) : Prop :=
  ∀ i, (∀ t, t < k → A t = ((i : Nat) : Int) → ∃ add, Adds W B l i add ∧ Kk i = K i ||| add) ∧ ((∀ t, t < k → A t ≠ ((i : Nat) : Int)) → Kk i = K i)
theorem Sought.zero (W A : Nat → Int) (B K : Nat → Nat) (l : Nat) : Sought W A B K K l 0 := fun _ => ⟨fun _ h => absurd h (Nat.not_lt_zero _), fun _ => rfl⟩
theorem Sought.step {W A : Nat → Int} {B K Kk : Nat → Nat} {k l m n p y add : Nat} (h : Sought W A B K Kk l k) (hok : LOk A m n) (hk : k < m) (hp : A k = (p : Int)) (ha : Adds W B l p add) (hy : y = Kk p ||| add) :
    Sought W A B K (fun i => if i = p then y else Kk i) l (k + 1) := by
  have hpn : ∀ j, j < k → A j ≠ (p : Int) := fun j hj => by have := hok.lt hj hk; omega
  intro i
  by_cases e : i = p
  · subst e
    have h1 := (h i).2 hpn
    refine ⟨fun j hj hj' => ⟨add, ha, ?_⟩, fun hn => absurd hp (hn k (by omega))⟩
    simp only [if_true]
    rw [hy, h1]
  · simp only [if_neg e]
    refine ⟨fun j hj hj' => ?_, fun hn => (h i).2 fun j hj => hn j (by omega)⟩
    by_cases e' : j = k
    · subst e'; omega
    · exact (h i).1 j (by omega) hj'
theorem Sought.skip {W A : Nat → Int} {B K Kk : Nat → Nat} {k l m n p : Nat} (h : Sought W A B K Kk l k) (hok : LOk A m n) (hk : k < m) (hp : A k = (p : Int)) (ha : ∀ q, q < l → W q ≠ (p : Int)) :
    Sought W A B K Kk l (k + 1) := by
  have h2 := h.step (y := Kk p) (add := 0) hok hk hp (.inr ⟨fun ⟨q, hq, e⟩ => ha q hq e, rfl⟩) (by simp)
  have e : (fun i => if i = p then Kk p else Kk i) = Kk := by
    funext i
    by_cases e : i = p
    · subst e; simp
    · simp [e]
  rwa [e] at h2
theorem Sought.good {W A : Nat → Int} {B F K Kk : Nat → Nat} {l m n : Nat} (h : Sought W A B K Kk l m) (hW : LOk W l n) (hf : FOk A m F n) (i add : Nat) (hi : i < n) (ha : Adds W B l i add) : Good (F i) (K i) (Kk i) add (In A m i) := by
  by_cases hin : In A m i
  · obtain ⟨t, ht, e⟩ := hin
    obtain ⟨add', ha', hk⟩ := (h i).1 t ht e
    have := ha.fn hW ha'
    subst this
    rw [hk]
    exact Good.all _ _ _ _ ⟨t, ht, e⟩
  · have hz := hf i hi hin
    rw [(h i).2 fun j hj e => hin ⟨j, hj, e⟩]
    have g := Good.mask (F i) (K i) add (In A m i) (fun _ => hz)
    rw [hz] at g ⊢
    simpa using g

/-- A store into a run's ofKey. -/
theorem pair_set {w : World} {b : Nat} {t : TypeId} {n : Nat} {X : Nat → Value} {Kk : Nat → Nat} (h : w.rowIs b t n (pairF X (fun i => .int .u64 (Kk i : Nat)))) (p y : Nat) :
    (w.setCell ⟨b, p * 2 + 1, none⟩ (.int .u64 (y : Nat))).rowIs b t n (pairF X (fun i => .int .u64 ((if i = p then y else Kk i : Nat) : Nat))) := by
  refine (h.set (p * 2 + 1) (.int .u64 (y : Nat))).congr fun j _ => ?_
  by_cases e : j = p * 2 + 1
  · subst e
    have e1 : (p * 2 + 1) % 2 = 1 := by omega
    have e2 : (p * 2 + 1) / 2 = p := by omega
    simp [pairF, e1, e2]
  · simp only [if_neg e, pairF]
    by_cases e1 : j % 2 = 0
    · simp [e1]
    · have e2 : j / 2 ≠ p := by omega
      simp [e1, e2]
theorem pair_cells {w : World} {b : Nat} {t : TypeId} {n : Nat} {X Y : Nat → Value} (h : w.rowIs b t (n * 2) (pairF X Y)) {i : Nat} (hi : i < n) : w.cell? ⟨b, i * 2, none⟩ = some (X i) ∧ w.cell? ⟨b, i * 2 + 1, none⟩ = some (Y i) := by
  have h1 := h.cell (i := i * 2) (by omega)
  have h2 := h.cell (i := i * 2 + 1) (by omega)
  have e1 : i * 2 / 2 = i := by omega
  have e2 : (i * 2 + 1) / 2 = i := by omega
  have e3 : (i * 2 + 1) % 2 = 1 := by omega
  simp only [pairF, Nat.mul_mod_left, e1, e2, e3] at h1 h2
  exact ⟨by simpa using h1, by simpa using h2⟩

theorem upd_lt {Kk : Nat → Nat} (h : ∀ i, Kk i < 18446744073709551616) {y : Nat} (hy : y < 18446744073709551616) (p : Nat) : ∀ i, (if i = p then y else Kk i) < 18446744073709551616 := fun i => by
  split
  · exact hy
  · exact h i

/-! ### What orAt does -/
/-- Only block 'rb' may have been written; new blocks at most. -/
abbrev OrPost (rb : Nat) (n l m : Nat) (W A : Nat → Int) (B F K : Nat → Nat) (w : World) (w' : World) : Prop :=
  ∃ K' : Nat → Nat, w'.rowIs rb 43 (n * 2) (pairF (fun i => .int .u64 (F i : Nat)) (fun i => .int .u64 (K' i : Nat))) ∧ (∀ i add, i < n → Adds W B l i add → Good (F i) (K i) (K' i) add (In A m i)) ∧
    (∀ i, K' i < 18446744073709551616) ∧ w.grownBy w' (some rb)
def OrEnd (rb : Nat) (n l m : Nat) (W A : Nat → Int) (B F K : Nat → Nat) (w : World) (e : Ending) (w' : World) : Prop := e = .returned (.tuple #[]) ∧ OrPost rb n l m W A B F K w w'

theorem grown_refl (w : World) (r : Option Nat) : w.grownBy w r := ⟨rfl, rfl, rfl, Nat.le_refl _, fun _ _ _ => rfl⟩
theorem grown_alloc {w w' : World} {r : Option Nat} (h : w.grownBy w' r) (o : Obj) : w.grownBy (w'.alloc o) r :=
  ⟨h.os, h.tape, h.output, Nat.le_trans h.size (by simp), fun k hk hr => (Below.heap_alloc _ _ _ (Nat.lt_of_lt_of_le hk h.size)).trans (h.block k hk hr)⟩
theorem grown_set {w w' : World} {b : Nat} (h : w.grownBy w' (some b)) (o : Nat) (v : Value) : w.grownBy (w'.setCell ⟨b, o, none⟩ v) (some b) :=
  ⟨h.os, h.tape, h.output, by simpa [World.setCell] using h.size, fun k hk hr => (Below.heap_setCell _ _ _ _ (fun e => hr (by rw [e]))).trans (h.block k hk hr)⟩
theorem grown_drewN {w w' : World} {r : Option Nat} (h : w.grownBy w' r) (q : Nat) : w.grownBy (w'.drewN q) r := ⟨h.os, h.tape, h.output, h.size, h.block⟩
theorem grown_drew {w w' : World} {r : Option Nat} (h : w.grownBy w' r) : w.grownBy w'.drew r := ⟨h.os, h.tape, h.output, h.size, h.block⟩
theorem grown_below {w w' w'' : World} {r : Option Nat} (h : w.grownBy w' r) (h2 : Below w'.heap.size w' w'') : w.grownBy w'' r :=
  ⟨h2.os.trans h.os, h2.tape.trans h.tape, h2.output.trans h.output, Nat.le_trans h.size h2.size, fun k hk hr => (h2.block k (Nat.lt_of_lt_of_le hk h.size)).trans (h.block k hk hr)⟩
theorem grown_cell {w w' : World} {r : Option Nat} (h : w.grownBy w' r) {a : Addr} (ha : a.block < w.heap.size) (hr : some a.block ≠ r) : w'.cell? a = w.cell? a := World.cell?_of_block (w := w) (h.block _ ha hr)
theorem grown_row {w w' : World} {r : Option Nat} (h : w.grownBy w' r) {b : Nat} {t : TypeId} {n : Nat} {f : Nat → Value} (hrow : w.rowIs b t n f) (hr : some b ≠ r) : w'.rowIs b t n f := hrow.of_block (h.block _ hrow.lt hr)
theorem below_row {w w' : World} (h : Below w.heap.size w w') {b : Nat} {t : TypeId} {n : Nat} {f : Nat → Value} (hrow : w.rowIs b t n f) : w'.rowIs b t n f := hrow.of_block (h.block _ hrow.lt)
end Go.Proofs.Qxb6603635a.Or
