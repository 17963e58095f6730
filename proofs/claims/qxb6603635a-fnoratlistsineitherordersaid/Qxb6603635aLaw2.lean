import Derived.Test.Qxb6603635aLaw1
namespace Go.Proofs.Qxb6603635a.Or
open Go.RowKit Go.Deep
set_option linter.unusedVariables false

theorem bytes2_any (a a' a2 a3 : Option Addr) (n cap m cap' l cap2 l3 cap3 : Nat) (hn : n ≤ maxLen) (hm : m ≤ maxLen) (hl : l ≤ maxLen) (hl3 : l3 ≤ maxLen) (w : World) :
    Calls Try.prog 17 #[.slice a n cap, .slice a' m cap', .slice a2 l cap2, .slice a3 l3 cap3] w (Tells (n ≤ 1048576 ∧ m ≤ 1048576 ∧ l ≤ 1048576 ∧ l3 ≤ 1048576) w) := by
  unfold maxLen at hn hm hl hl3
  go_enter Try.func17, Try.ntmps17
  go_wp2
  all_goals go_ret
  all_goals first
    | exact Tells.no (q := 0)
    | exact Tells.yes (q := 0) ⟨by omega, by omega, by omega, by omega⟩

/-- A finding as it lies in memory. -/
structure Fin (w : World) (fb rb ab n m : Nat) (F K : Nat → Nat) (A : Nat → Int) : Prop where
  c0 : w.cell? ⟨fb, 0, none⟩ = some (.slice (some ⟨rb, 0, none⟩) n n)
  c1 : w.cell? ⟨fb, 1, none⟩ = some (.slice (some ⟨ab, 0, none⟩) m m)
  hfb : fb < w.heap.size
  run : w.rowIs rb 43 (n * 2) (pairF (fun i => .int .u64 (F i : Nat)) (fun i => .int .u64 (K i : Nat)))
  hat : w.rowIs ab 3 m (fun i => .int .i64 (A i))
  rf : rb ≠ fb
  ra : rb ≠ ab

theorem Fin.below {w w' : World} {fb rb ab n m : Nat} {F K : Nat → Nat} {A : Nat → Int} (h : Fin w fb rb ab n m F K A) (hb : Below w.heap.size w w') : Fin w' fb rb ab n m F K A :=
  ⟨(hb.cell (p := ⟨fb, 0, none⟩) h.hfb).trans h.c0, (hb.cell (p := ⟨fb, 1, none⟩) h.hfb).trans h.c1, Nat.lt_of_lt_of_le h.hfb hb.size, below_row hb h.run, below_row hb h.hat, h.rf, h.ra⟩

theorem Fin.orAt {w : World} {fb rb ab n m : Nat} {F K : Nat → Nat} {A : Nat → Int} (h : Fin w fb rb ab n m F K A) (lb l : Nat) (W : Nat → Int) (B : Nat → Nat)
    (hn : n ≤ 1048576) (hl : l ≤ 1048576) (hm : m ≤ 1048576) (hlist : w.rowIs lb 57 (l * 2) (pairF (fun i => .int .i64 (W i)) (fun i => .int .u64 (B i : Nat))))
    (hrl : rb ≠ lb) (hW : LOk W l n) (hA : LOk A m n) (hFO : FOk A m F n)
    (hF : ∀ i, F i < 18446744073709551616) (hK : ∀ i, K i < 18446744073709551616) (hB : ∀ i, B i < 18446744073709551616) :
    Calls Try.prog 12 #[.pointer (some ⟨fb, 0, none⟩), .slice (some ⟨lb, 0, none⟩) l l] w fun e w' => e = .returned (.tuple #[]) ∧ ∃ K' : Nat → Nat, Fin w' fb rb ab n m F K' A ∧
      (∀ i add, i < n → Adds W B l i add → Good (F i) (K i) (K' i) add (In A m i)) ∧ (∀ i, K' i < 18446744073709551616) ∧ w.grownBy w' (some rb) := by
  refine (zzOrAt_any fb rb ab lb n l m W A B F K w hn hl hm h.c0 h.c1 h.hfb h.run h.hat hlist h.rf hrl h.ra hW hA hFO hF hK hB).mono ?_
  rintro e w' ⟨rfl, K', hrow, hg, hK', hgr⟩
  have h1 := h.rf
  have h2 := h.ra
  refine ⟨rfl, K', ⟨(grown_cell hgr (a := ⟨fb, 0, none⟩) h.hfb (by simp; omega)).trans h.c0, (grown_cell hgr (a := ⟨fb, 1, none⟩) h.hfb (by simp; omega)).trans h.c1, Nat.lt_of_lt_of_le h.hfb hgr.size, hrow,
    grown_row hgr h.hat (by simp; omega), h.rf, h.ra⟩, hg, hK', hgr⟩
end Go.Proofs.Qxb6603635a.Or
