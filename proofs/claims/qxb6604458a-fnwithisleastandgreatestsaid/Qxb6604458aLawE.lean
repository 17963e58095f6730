import Derived.Test.Qxb6604458aTools
namespace Go.Proofs.Qxb6604458a.Num
open Go.RowKit
set_option linter.unusedVariables false

set_option maxHeartbeats 3200000 in
set_option maxRecDepth 100000 in
theorem law_empty (ln : Bool) (la lf : ByteArray) (hn : Bool) (ha hf : ByteArray) (n : Bool) (a f : ByteArray) (h1 : la.size ≤ maxLen) (h2 : lf.size ≤ maxLen) (h4 : ha.size ≤ maxLen) (h5 : hf.size ≤ maxLen) (h8 : a.size ≤ maxLen) (h9 : f.size ≤ maxLen) (w : World) :
    Calls Try.prog 3 #[.bool ln, .string la, .string lf, .bool hn, .string ha, .string hf, .bool false, .bool n, .string a, .string f] w fun e w' => e = .returned (.bool true) ∧ Below w.heap.size w w' := by
  go_enter Try.func3, Try.ntmps3
  go_wp2_with fail
  refine (bytes_any ln la lf hn ha hf false n a f h1 h2 h4 h5 h8 h9 _).mono ?_
  rintro e w1 ⟨r, rfl, hP, hw⟩
  rw [hw]; clear hw w1
  cases r with
  | false =>
    go_wp2
    go_ret
    exact ⟨rfl, Below.refl _ _⟩
  | true =>
  obtain ⟨k1, k2, k4, k5, k8, k9⟩ := hP rfl
  clear hP h1 h2 h4 h5 h8 h9
  have d1 : decide ((1048576 : Int) < (la.size : Int)) = false := decide_eq_false (by omega)
  have d2 : decide ((1048576 : Int) < (lf.size : Int)) = false := decide_eq_false (by omega)
  have d4 : decide ((1048576 : Int) < (ha.size : Int)) = false := decide_eq_false (by omega)
  have d5 : decide ((1048576 : Int) < (hf.size : Int)) = false := decide_eq_false (by omega)
  have d8 : decide ((1048576 : Int) < (a.size : Int)) = false := decide_eq_false (by omega)
  have d9 : decide ((1048576 : Int) < (f.size : Int)) = false := decide_eq_false (by omega)
  by_cases hsum : 1048576 < la.size + lf.size + ha.size + hf.size + a.size + f.size
  · go_wp2
    go_ret
    exact ⟨rfl, Below.refl _ _⟩
  have dsum : decide ((1048576 : Int) < (la.size : Int) + (lf.size : Int) + (ha.size : Int) + (hf.size : Int) + (a.size : Int) + (f.size : Int)) = false := decide_eq_false (by omega)
  go_wp2_with fail
  refine (canon_any n a f k8 k9 _).mono ?_
  rintro e w1 ⟨r, rfl, hP, hw⟩
  rw [hw]; clear hw w1
  cases r with
  | false =>
    go_wp2
    go_ret
    exact ⟨rfl, Below.refl _ _⟩
  | true =>
  clear hP d1 d2 d4 d5 d8 d9 dsum k1 k2 k4 k5 k8 k9 hsum
  cases ln with
  | true =>
    go_wp2
    go_ret
    exact ⟨rfl, Below.refl _ _⟩
  | false =>
  cases e1 : la.toList.isEmpty with
  | false =>
    go_wp2
    all_goals go_ret
    all_goals exact ⟨rfl, Below.refl _ _⟩
  | true =>
  cases e2 : lf.toList.isEmpty with
  | false =>
    go_wp2
    all_goals go_ret
    all_goals exact ⟨rfl, Below.refl _ _⟩
  | true =>
  cases hn with
  | true =>
    go_wp2
    all_goals go_ret
    all_goals exact ⟨rfl, Below.refl _ _⟩
  | false =>
  cases e3 : ha.toList.isEmpty with
  | false =>
    go_wp2
    all_goals go_ret
    all_goals exact ⟨rfl, Below.refl _ _⟩
  | true =>
  cases e4 : hf.toList.isEmpty with
  | false =>
    go_wp2
    all_goals go_ret
    all_goals exact ⟨rfl, Below.refl _ _⟩
  | true =>
  go_wp2_with fail
  clear e1 e2 e3 e4
  refine (number_any _ _ _ _).mono ?_
  rintro e w1 ⟨rfl, hw⟩
  have hb1 : Below w.heap.size w w1 := by rw [hw]; exact bel (Below.refl _ _) _
  clear hw
  go_wp2_with fail
  refine (number_any _ _ _ _).mono ?_
  rintro e w2 ⟨rfl, hw⟩
  have hb2 : Below w.heap.size w w2 := by rw [hw]; exact bel hb1 _
  clear hw hb1
  go_wp2_with fail
  refine (bounds_any _ _ _ _ _ _ _ _).mono ?_
  rintro e w3 ⟨rfl, hb3⟩
  have hb3 : Below w.heap.size w w3 := below_on hb3 hb2
  clear hb2
  go_upto_region 17 with fail
  go_cut [22] (fun s22 wx => ∃ ob : Nat, s22 = .pointer (some ⟨ob, 0, none⟩) ∧ Below w.heap.size w wx ∧ CellsAt wx ob #[.bool n, .string a, .string f, .bool n, .string a, .string f, .bool true])
  case first =>
    have hs3 := hb3.size
    go_region_with (first
      | (go_at_call 10; refine (number_any _ _ _ _).mono ?_; rintro e w' ⟨rfl, rfl⟩)
      | (go_at_call 11; refine (zzWith_empty _ _ _ _ _ _ _ _ _ _).mono ?_; rintro e w4 ⟨rfl, hb4⟩; obtain ⟨hc4, hf4⟩ := bcell hb4))
    all_goals (go_wp2_with fail; go_meet)
    all_goals
      clear hc4 hf4
      have hb5 := below_on hb4 (by repeat (first | exact hb3 | apply Below.drew | apply bel))
      first
        | (refine ⟨w4.heap.size, rfl, ?_, ?_⟩
           · exact bel hb5 _
           · exact CellsAt.new _ _ _)
        | (refine ⟨w3.heap.size + 1, rfl, ?_, ?_⟩
           · exact below_seven hb5 (by omega)
           · refine CellsAt.seven (z0 := .bool false) (z1 := .string ⟨#[]⟩) (z2 := .string ⟨#[]⟩) (z3 := .bool false) (z4 := .string ⟨#[]⟩) (z5 := .string ⟨#[]⟩) (z6 := .bool false) (CellsAt.below ?_ hb4)
             repeat (first | exact CellsAt.new' _ _ _ (by simp) | apply CellsAt.drew | apply CellsAt.alloc))
        | (refine ⟨w3.heap.size + 1 + 1, rfl, ?_, ?_⟩
           · exact below_seven hb5 (by omega)
           · refine CellsAt.seven (z0 := .bool false) (z1 := .string ⟨#[]⟩) (z2 := .string ⟨#[]⟩) (z3 := .bool false) (z4 := .string ⟨#[]⟩) (z5 := .string ⟨#[]⟩) (z6 := .bool false) (CellsAt.below ?_ hb4)
             repeat (first | exact CellsAt.new' _ _ _ (by simp) | apply CellsAt.drew | apply CellsAt.alloc))
  case rest =>
  obtain ⟨ob, rfl, hb5, hcells⟩ := hcut
  have c0 := hcells.at (j := 0) rfl
  have c1 := hcells.at (j := 1) rfl
  have c2 := hcells.at (j := 2) rfl
  have c3 := hcells.at (j := 3) rfl
  have c4 := hcells.at (j := 4) rfl
  have c5 := hcells.at (j := 5) rfl
  have c6 := hcells.at (j := 6) rfl
  clear hcells hb3
  go_wp2_with fail
  refine (boundsOf_any _ _ _ _ _ _ _ _).mono ?_
  rintro e w6 ⟨rfl, hb6⟩
  have hb6 : Below w.heap.size w w6 := below_on hb6 hb5
  clear c0 c1 c2 c3 c4 c5 c6 hb5
  go_wp2_with fail
  refine (numberOf_any _ _ _ _).mono ?_
  rintro e w7 ⟨rfl, hb7⟩
  have q0 : w7.cell? ⟨w6.heap.size + 1, 0, none⟩ = some (.bool n) := by rw [hb7.cell (by simp)]; simp [go_sem]
  have q1 : w7.cell? ⟨w6.heap.size + 1, 1, none⟩ = some (.string a) := by rw [hb7.cell (by simp)]; simp [go_sem]
  have q2 : w7.cell? ⟨w6.heap.size + 1, 2, none⟩ = some (.string f) := by rw [hb7.cell (by simp)]; simp [go_sem]
  have hb7 : Below w.heap.size w w7 := below_on hb7 (bel (bel hb6 _) _)
  clear hb6
  go_wp2_with fail
  refine (numberOf_any _ _ _ _).mono ?_
  rintro e w8 ⟨rfl, hb8⟩
  have hb8 : Below w.heap.size w w8 := below_on hb8 hb7
  clear hb7 q0 q1 q2
  have hss := sameB_self n a f
  go_wp2_with (go_at_call 14; refine (same_any _ _ _ _ _ _ _).mono ?_; rintro e w' ⟨rfl, rfl⟩)
  go_ret
  exact ⟨rfl, hb8⟩
end Go.Proofs.Qxb6604458a.Num
