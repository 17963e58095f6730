import Derived.Test.Qxb6604458aBounds
namespace Go.Proofs.Qxb6604458a.Num
open Go.RowKit
set_option linter.unusedVariables false

set_option maxHeartbeats 800000 in
theorem boundsOf_any (ln : Bool) (la lf : ByteArray) (hn : Bool) (ha hf : ByteArray) (ok : Bool) (w : World) :
    Calls Try.prog 12 #[.agg #[.bool ln, .string la, .string lf, .bool hn, .string ha, .string hf, .bool ok]] w fun e w' => e = .returned (.tuple #[.agg #[.bool ln, .string la, .string lf], .agg #[.bool hn, .string ha, .string hf], .bool ok]) ∧ Below w.heap.size w w' := by
  go_enter Try.func12, Try.ntmps12
  go_wp2
  go_region
  all_goals
    go_wp2
    refine bodyPost_ret (v := .tuple #[.agg #[.bool ln, .string la, .string lf], .agg #[.bool hn, .string ha, .string hf], .bool ok]) (by simp [results, Try.results12, go_sem]) rfl ⟨rfl, ?_⟩
    refine Below.drew ?_
    repeat (first | exact Below.refl _ _ | apply bel)

theorem numberOf_any (n : Bool) (a f : ByteArray) (w : World) :
    Calls Try.prog 13 #[.agg #[.bool n, .string a, .string f]] w fun e w' => e = .returned (.tuple #[.bool n, .string a, .string f]) ∧ Below w.heap.size w w' := by
  go_enter Try.func13, Try.ntmps13
  go_wp2
  go_quiet (fail)
  go_wp2
  go_ret3
  exact ⟨rfl, (bel (Below.refl _ _) _).trans ⟨rfl, rfl, rfl, Nat.le_refl _, fun _ _ => rfl⟩⟩

/-- Are the two numbers the same text? -/
def sameB (an : Bool) (aw af : ByteArray) (bn : Bool) (bw bf : ByteArray) : Bool := (an == bn) && ((aw.toList == bw.toList) && (af.toList == bf.toList))
theorem sameB_self (an : Bool) (aw af : ByteArray) : sameB an aw af an aw af = true := by simp [sameB]

theorem same_any (an : Bool) (aw af : ByteArray) (bn : Bool) (bw bf : ByteArray) (w : World) :
    Calls Try.prog 14 #[.bool an, .string aw, .string af, .bool bn, .string bw, .string bf] w fun e w' => e = .returned (.bool (sameB an aw af bn bw bf)) ∧ w' = w := by
  by_cases h1 : an = bn
  · subst h1
    by_cases h2 : (aw.toList == bw.toList) = true
    · have e : sameB an aw af an bw bf = (af.toList == bf.toList) := by simp only [sameB, h2]; simp
      rw [e]
      go_enter Try.func14, Try.ntmps14
      go_wp2
      go_ret
      exact ⟨rfl, rfl⟩
    · have h2' : (aw.toList == bw.toList) = false := by simpa using h2
      have e : sameB an aw af an bw bf = false := by simp only [sameB, h2']; simp
      rw [e]
      clear h2
      go_enter Try.func14, Try.ntmps14
      go_wp2
      go_ret
      exact ⟨rfl, rfl⟩
  · have h1' : (an == bn) = false := by simpa using h1
    have e : sameB an aw af bn bw bf = false := by simp only [sameB, h1']; simp
    rw [e]
    go_enter Try.func14, Try.ntmps14
    go_wp2
    go_ret
    exact ⟨rfl, rfl⟩

set_option maxHeartbeats 800000 in
theorem bytes_any (b0 : Bool) (s1 s2 : ByteArray) (b3 : Bool) (s4 s5 : ByteArray) (b6 b7 : Bool) (s8 s9 : ByteArray) (h1 : s1.size ≤ maxLen) (h2 : s2.size ≤ maxLen) (h4 : s4.size ≤ maxLen) (h5 : s5.size ≤ maxLen) (h8 : s8.size ≤ maxLen) (h9 : s9.size ≤ maxLen) (w : World) :
    Calls Try.prog 6 #[.bool b0, .string s1, .string s2, .bool b3, .string s4, .string s5, .bool b6, .bool b7, .string s8, .string s9] w
      (Tells (s1.size ≤ 1048576 ∧ s2.size ≤ 1048576 ∧ s4.size ≤ 1048576 ∧ s5.size ≤ 1048576 ∧ s8.size ≤ 1048576 ∧ s9.size ≤ 1048576) w) := by
  unfold maxLen at h1 h2 h4 h5 h8 h9
  go_enter Try.func6, Try.ntmps6
  go_wp2
  all_goals go_ret
  all_goals first
    | exact Tells.no
    | exact Tells.yes ⟨by omega, by omega, by omega, by omega, by omega, by omega⟩

end Go.Proofs.Qxb6604458a.Num
