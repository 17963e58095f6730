import Derived.Test.Qxb6604458aCmp
import Derived.Deep.RegionWith
import Derived.BigRegion
namespace Go.Proofs.Qxb6604458a.Num
open Go.RowKit
set_option linter.unusedVariables false

/-- A number as a value. -/
abbrev numV (n : Bool) (a f : ByteArray) : Value := .agg #[.bool n, .string a, .string f]

theorem number_any (n : Bool) (a f : ByteArray) (w : World) : Calls Try.prog 10 #[.bool n, .string a, .string f] w fun e w' => e = .returned (.agg #[.bool n, .string a, .string f]) ∧ w' = w.alloc (.cells #[.bool n, .string a, .string f] 26) := by
  go_enter Try.func10, Try.ntmps10
  go_wp2
  exact bodyPost_ret (v := .agg #[.bool n, .string a, .string f]) (by simp [results, Try.results10, go_sem]) rfl ⟨rfl, rfl⟩

theorem bounds_any (ln : Bool) (la lf : ByteArray) (hn : Bool) (ha hf : ByteArray) (ok : Bool) (w : World) :
    Calls Try.prog 9 #[.agg #[.bool ln, .string la, .string lf], .agg #[.bool hn, .string ha, .string hf], .bool ok] w fun e w' => e = .returned (.agg #[.bool ln, .string la, .string lf, .bool hn, .string ha, .string hf, .bool ok]) ∧ Below w.heap.size w w' := by
  go_enter Try.func9, Try.ntmps9
  go_wp2
  refine bodyPost_ret (v := .agg #[.bool ln, .string la, .string lf, .bool hn, .string ha, .string hf, .bool ok]) (by simp [results, Try.results9, go_sem]) rfl ⟨rfl, ?_⟩
  exact (below2 _ _ _).alloc (by simp; omega) _

theorem bel {w w' : World} (h : Below w.heap.size w w') (o : Obj) : Below w.heap.size w (w'.alloc o) := h.alloc h.size o

theorem zzWith_empty (ln : Bool) (la lf : ByteArray) (hn : Bool) (ha hf : ByteArray) (n : Bool) (a f : ByteArray) (w : World) :
    Calls Try.prog 11 #[.agg #[.bool ln, .string la, .string lf, .bool hn, .string ha, .string hf, .bool false], .agg #[.bool n, .string a, .string f]] w fun e w' => e = .returned (.agg #[.bool n, .string a, .string f, .bool n, .string a, .string f, .bool true]) ∧ Below w.heap.size w w' := by
  go_enter Try.func11, Try.ntmps11
  go_wp2
  refine bodyPost_ret (v := .agg #[.bool n, .string a, .string f, .bool n, .string a, .string f, .bool true]) (by simp [results, Try.results25, go_sem]) rfl ?_
  go_wp2
  refine bodyPost_ret (v := .agg #[.bool n, .string a, .string f, .bool n, .string a, .string f, .bool true]) (by simp [results, Try.results11, go_sem]) rfl ⟨rfl, ?_⟩
  repeat (first | exact Below.refl _ _ | apply bel)

set_option maxHeartbeats 1600000 in
theorem zzWith_nn (ln : Bool) (la lf : ByteArray) (hn : Bool) (ha hf : ByteArray) (n : Bool) (a f : ByteArray) (w : World) (x y : Int)
    (hx : ∀ w, Calls Try.prog 27 #[.agg #[.bool n, .string a, .string f], .agg #[.bool ln, .string la, .string lf]] w (CmpPost x (boxed w n a f ln la lf)))
    (hy : ∀ w, Calls Try.prog 27 #[.agg #[.bool n, .string a, .string f], .agg #[.bool hn, .string ha, .string hf]] w (CmpPost y (boxed w n a f hn ha hf)))
    (h1 : x < 0) (h2 : 0 < y) :
    Calls Try.prog 11 #[.agg #[.bool ln, .string la, .string lf, .bool hn, .string ha, .string hf, .bool true], .agg #[.bool n, .string a, .string f]] w fun e w' => e = .returned (.agg #[.bool n, .string a, .string f, .bool n, .string a, .string f, .bool true]) ∧ Below w.heap.size w w' := by
  have HX : Hid (∀ w, Calls Try.prog 27 #[.agg #[.bool n, .string a, .string f], .agg #[.bool ln, .string la, .string lf]] w (CmpPost x (boxed w n a f ln la lf))) := hx
  have HY : Hid (∀ w, Calls Try.prog 27 #[.agg #[.bool n, .string a, .string f], .agg #[.bool hn, .string ha, .string hf]] w (CmpPost y (boxed w n a f hn ha hf))) := hy
  clear hx hy
  go_enter Try.func11, Try.ntmps11
  go_wp2_with (go_at_call 25; go_in)
  refine (HX.out _).mono ?_
  rintro e w' ⟨rfl, rfl⟩
  go_wp2_with fail
  refine (HY.out _).mono ?_
  rintro e w' ⟨rfl, rfl⟩
  go_wp2
  refine bodyPost_ret (v := .agg #[.bool n, .string a, .string f, .bool n, .string a, .string f, .bool true]) (by simp [results, Try.results25, go_sem]) rfl ?_
  go_wp2
  refine bodyPost_ret (v := .agg #[.bool n, .string a, .string f, .bool n, .string a, .string f, .bool true]) (by simp [results, Try.results11, go_sem]) rfl ⟨rfl, ?_⟩
  repeat (first | exact Below.refl _ _ | apply bel)

set_option maxHeartbeats 1600000 in
theorem zzWith_nh (ln : Bool) (la lf : ByteArray) (hn : Bool) (ha hf : ByteArray) (n : Bool) (a f : ByteArray) (w : World) (x y : Int)
    (hx : ∀ w, Calls Try.prog 27 #[.agg #[.bool n, .string a, .string f], .agg #[.bool ln, .string la, .string lf]] w (CmpPost x (boxed w n a f ln la lf)))
    (hy : ∀ w, Calls Try.prog 27 #[.agg #[.bool n, .string a, .string f], .agg #[.bool hn, .string ha, .string hf]] w (CmpPost y (boxed w n a f hn ha hf)))
    (h1 : x < 0) (h2 : ¬ 0 < y) :
    Calls Try.prog 11 #[.agg #[.bool ln, .string la, .string lf, .bool hn, .string ha, .string hf, .bool true], .agg #[.bool n, .string a, .string f]] w fun e w' => e = .returned (.agg #[.bool n, .string a, .string f, .bool hn, .string ha, .string hf, .bool true]) ∧ Below w.heap.size w w' := by
  have HX : Hid (∀ w, Calls Try.prog 27 #[.agg #[.bool n, .string a, .string f], .agg #[.bool ln, .string la, .string lf]] w (CmpPost x (boxed w n a f ln la lf))) := hx
  have HY : Hid (∀ w, Calls Try.prog 27 #[.agg #[.bool n, .string a, .string f], .agg #[.bool hn, .string ha, .string hf]] w (CmpPost y (boxed w n a f hn ha hf))) := hy
  clear hx hy
  go_enter Try.func11, Try.ntmps11
  go_wp2_with (go_at_call 25; go_in)
  refine (HX.out _).mono ?_
  rintro e w' ⟨rfl, rfl⟩
  go_wp2_with fail
  refine (HY.out _).mono ?_
  rintro e w' ⟨rfl, rfl⟩
  go_wp2
  refine bodyPost_ret (v := .agg #[.bool n, .string a, .string f, .bool hn, .string ha, .string hf, .bool true]) (by simp [results, Try.results25, go_sem]) rfl ?_
  go_wp2
  refine bodyPost_ret (v := .agg #[.bool n, .string a, .string f, .bool hn, .string ha, .string hf, .bool true]) (by simp [results, Try.results11, go_sem]) rfl ⟨rfl, ?_⟩
  repeat (first | exact Below.refl _ _ | apply bel)

set_option maxHeartbeats 1600000 in
theorem zzWith_ln (ln : Bool) (la lf : ByteArray) (hn : Bool) (ha hf : ByteArray) (n : Bool) (a f : ByteArray) (w : World) (x y : Int)
    (hx : ∀ w, Calls Try.prog 27 #[.agg #[.bool n, .string a, .string f], .agg #[.bool ln, .string la, .string lf]] w (CmpPost x (boxed w n a f ln la lf)))
    (hy : ∀ w, Calls Try.prog 27 #[.agg #[.bool n, .string a, .string f], .agg #[.bool hn, .string ha, .string hf]] w (CmpPost y (boxed w n a f hn ha hf)))
    (h1 : ¬ x < 0) (h2 : 0 < y) :
    Calls Try.prog 11 #[.agg #[.bool ln, .string la, .string lf, .bool hn, .string ha, .string hf, .bool true], .agg #[.bool n, .string a, .string f]] w fun e w' => e = .returned (.agg #[.bool ln, .string la, .string lf, .bool n, .string a, .string f, .bool true]) ∧ Below w.heap.size w w' := by
  have HX : Hid (∀ w, Calls Try.prog 27 #[.agg #[.bool n, .string a, .string f], .agg #[.bool ln, .string la, .string lf]] w (CmpPost x (boxed w n a f ln la lf))) := hx
  have HY : Hid (∀ w, Calls Try.prog 27 #[.agg #[.bool n, .string a, .string f], .agg #[.bool hn, .string ha, .string hf]] w (CmpPost y (boxed w n a f hn ha hf))) := hy
  clear hx hy
  go_enter Try.func11, Try.ntmps11
  go_wp2_with (go_at_call 25; go_in)
  refine (HX.out _).mono ?_
  rintro e w' ⟨rfl, rfl⟩
  go_wp2_with fail
  refine (HY.out _).mono ?_
  rintro e w' ⟨rfl, rfl⟩
  go_wp2
  refine bodyPost_ret (v := .agg #[.bool ln, .string la, .string lf, .bool n, .string a, .string f, .bool true]) (by simp [results, Try.results25, go_sem]) rfl ?_
  go_wp2
  refine bodyPost_ret (v := .agg #[.bool ln, .string la, .string lf, .bool n, .string a, .string f, .bool true]) (by simp [results, Try.results11, go_sem]) rfl ⟨rfl, ?_⟩
  repeat (first | exact Below.refl _ _ | apply bel)

set_option maxHeartbeats 1600000 in
theorem zzWith_lh (ln : Bool) (la lf : ByteArray) (hn : Bool) (ha hf : ByteArray) (n : Bool) (a f : ByteArray) (w : World) (x y : Int)
    (hx : ∀ w, Calls Try.prog 27 #[.agg #[.bool n, .string a, .string f], .agg #[.bool ln, .string la, .string lf]] w (CmpPost x (boxed w n a f ln la lf)))
    (hy : ∀ w, Calls Try.prog 27 #[.agg #[.bool n, .string a, .string f], .agg #[.bool hn, .string ha, .string hf]] w (CmpPost y (boxed w n a f hn ha hf)))
    (h1 : ¬ x < 0) (h2 : ¬ 0 < y) :
    Calls Try.prog 11 #[.agg #[.bool ln, .string la, .string lf, .bool hn, .string ha, .string hf, .bool true], .agg #[.bool n, .string a, .string f]] w fun e w' => e = .returned (.agg #[.bool ln, .string la, .string lf, .bool hn, .string ha, .string hf, .bool true]) ∧ Below w.heap.size w w' := by
  have HX : Hid (∀ w, Calls Try.prog 27 #[.agg #[.bool n, .string a, .string f], .agg #[.bool ln, .string la, .string lf]] w (CmpPost x (boxed w n a f ln la lf))) := hx
  have HY : Hid (∀ w, Calls Try.prog 27 #[.agg #[.bool n, .string a, .string f], .agg #[.bool hn, .string ha, .string hf]] w (CmpPost y (boxed w n a f hn ha hf))) := hy
  clear hx hy
  go_enter Try.func11, Try.ntmps11
  go_wp2_with (go_at_call 25; go_in)
  refine (HX.out _).mono ?_
  rintro e w' ⟨rfl, rfl⟩
  go_wp2_with fail
  refine (HY.out _).mono ?_
  rintro e w' ⟨rfl, rfl⟩
  go_wp2
  refine bodyPost_ret (v := .agg #[.bool ln, .string la, .string lf, .bool hn, .string ha, .string hf, .bool true]) (by simp [results, Try.results25, go_sem]) rfl ?_
  go_wp2
  refine bodyPost_ret (v := .agg #[.bool ln, .string la, .string lf, .bool hn, .string ha, .string hf, .bool true]) (by simp [results, Try.results11, go_sem]) rfl ⟨rfl, ?_⟩
  repeat (first | exact Below.refl _ _ | apply bel)

end Go.Proofs.Qxb6604458a.Num
