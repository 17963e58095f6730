import Derived.Test.Qxb6604227aModel
import Derived.Laws.IdiomStrings
namespace Go.Proofs.Qxb6604227a.Cond
open Go.RowKit
set_option linter.unusedVariables false

/-- The byte of the last decimal digit. -/
def dg (v : Int) : UInt8 := UInt8.ofNat (48 + v % 10).toNat
theorem dg_toNat (v : Int) : ((dg v).toNat : Int) = 48 + v % 10 := by
  have h0 : 0 ≤ v % 10 := Int.emod_nonneg _ (by decide)
  have h1 : v % 10 < 10 := Int.emod_lt_of_pos _ (by decide)
  unfold dg
  rw [UInt8.toNat_ofNat']
  omega
/-- The nine digits of v. -/
def nineL (v : Int) : List UInt8 := [dg (v / 10 / 10 / 10 / 10 / 10 / 10 / 10 / 10), dg (v / 10 / 10 / 10 / 10 / 10 / 10 / 10), dg (v / 10 / 10 / 10 / 10 / 10 / 10), dg (v / 10 / 10 / 10 / 10 / 10), dg (v / 10 / 10 / 10 / 10), dg (v / 10 / 10 / 10), dg (v / 10 / 10), dg (v / 10), dg v]
theorem nine_cell (v : Int) (w : World) (j : Nat) (hj : j < (nineL v).length) :
    (w.alloc (.cells #[.int .u8 (48 + v / 10 / 10 / 10 / 10 / 10 / 10 / 10 / 10 % 10), .int .u8 (48 + v / 10 / 10 / 10 / 10 / 10 / 10 / 10 % 10), .int .u8 (48 + v / 10 / 10 / 10 / 10 / 10 / 10 % 10), .int .u8 (48 + v / 10 / 10 / 10 / 10 / 10 % 10),
      .int .u8 (48 + v / 10 / 10 / 10 / 10 % 10), .int .u8 (48 + v / 10 / 10 / 10 % 10), .int .u8 (48 + v / 10 / 10 % 10), .int .u8 (48 + v / 10 % 10), .int .u8 (48 + v % 10)] 29)).cell? ((⟨w.heap.size, 0, none⟩ : Addr).add j) = some (.int .u8 ((nineL v)[j].toNat : Int)) := by
  have hj' : j < 9 := hj
  have : j = 0 ∨ j = 1 ∨ j = 2 ∨ j = 3 ∨ j = 4 ∨ j = 5 ∨ j = 6 ∨ j = 7 ∨ j = 8 := by omega
  rcases this with rfl | rfl | rfl | rfl | rfl | rfl | rfl | rfl | rfl <;> simp [nineL, dg_toNat, Addr.add, go_sem]

set_option maxHeartbeats 1600000 in
theorem nine_any (v : Int) (w : World) (h0 : 0 ≤ v) (h1 : v ≤ 999999999) : Calls Try.prog 12 #[.int .i64 v] w fun e w' => e = .returned (.string ⟨(nineL v).toArray⟩) ∧ Grown w w' := by
  have hc := run_convert_bytes_back (P := Try.prog) _ 30 9 5 ⟨w.heap.size, 0, none⟩ 9 (nineL v) Try.underlying30 Try.underlying5 Try.underlying9 (nine_cell v w)
  have hl : (nineL v).length = 9 := rfl
  rw [hl] at hc
  obtain ⟨t, ht⟩ : ∃ t : ByteArray, t = ⟨(nineL v).toArray⟩ := ⟨_, rfl⟩
  rw [← ht] at hc ⊢
  clear ht hl
  go_enter Try.func12, Try.ntmps12
  go_wp2
  refine wp_loop_rounds 10 ?_
  iterate 10 (rw [rounds_succ]; go_wp2)
  go_ret
  exact ⟨rfl, (Grown.refl _).alloc _ _⟩
end Go.Proofs.Qxb6604227a.Cond
