import Derived.Test.Qxb6604458aParts
namespace Go.Proofs.Qxb6604458a.Num
open Go.RowKit
set_option linter.unusedVariables false

/-- What the low of the widened bounds is good for: it is one of the two, and no greater than either. -/
structure LowOK (ln : Bool) (la lf : ByteArray) (n : Bool) (a f : ByteArray) (pn : Bool) (pa pf : ByteArray) : Prop where
  one : sameB pn pa pf ln la lf = true ∨ sameB pn pa pf n a f = true
  below : val pn pa pf ln la lf ≤ 0
  belowN : val pn pa pf n a f ≤ 0
  szw : pa.size ≤ 1048576
  szf : pf.size ≤ 1048576
structure HighOK (hn : Bool) (ha hf : ByteArray) (n : Bool) (a f : ByteArray) (pn : Bool) (pa pf : ByteArray) : Prop where
  one : sameB pn pa pf hn ha hf = true ∨ sameB pn pa pf n a f = true
  above : 0 ≤ val pn pa pf hn ha hf
  aboveN : 0 ≤ val pn pa pf n a f
  szw : pa.size ≤ 1048576
  szf : pf.size ≤ 1048576

theorem lowOK_n {ln : Bool} {la lf : ByteArray} {n : Bool} {a f : ByteArray} (h : val n a f ln la lf < 0) (h1 : a.size ≤ 1048576) (h2 : f.size ≤ 1048576) : LowOK ln la lf n a f n a f :=
  ⟨.inr (sameB_self _ _ _), by omega, by rw [val_self]; omega, h1, h2⟩
theorem lowOK_l {ln : Bool} {la lf : ByteArray} {n : Bool} {a f : ByteArray} (h : ¬ val n a f ln la lf < 0) (h1 : la.size ≤ 1048576) (h2 : lf.size ≤ 1048576) : LowOK ln la lf n a f ln la lf :=
  ⟨.inl (sameB_self _ _ _), by rw [val_self]; omega, by rw [val_anti n a f ln la lf]; omega, h1, h2⟩
theorem highOK_n {hn : Bool} {ha hf : ByteArray} {n : Bool} {a f : ByteArray} (h : 0 < val n a f hn ha hf) (h1 : a.size ≤ 1048576) (h2 : f.size ≤ 1048576) : HighOK hn ha hf n a f n a f :=
  ⟨.inr (sameB_self _ _ _), by omega, by rw [val_self]; omega, h1, h2⟩
theorem highOK_h {hn : Bool} {ha hf : ByteArray} {n : Bool} {a f : ByteArray} (h : ¬ 0 < val n a f hn ha hf) (h1 : ha.size ≤ 1048576) (h2 : hf.size ≤ 1048576) : HighOK hn ha hf n a f hn ha hf :=
  ⟨.inl (sameB_self _ _ _), by rw [val_self]; omega, by rw [val_anti n a f hn ha hf]; omega, h1, h2⟩

/-- What ZZwith hands back where the bounds are ok. -/
def WithPost (ln : Bool) (la lf : ByteArray) (hn : Bool) (ha hf : ByteArray) (n : Bool) (a f : ByteArray) (w : World) (e : Ending) (w' : World) : Prop :=
  ∃ (pn : Bool) (pa pf : ByteArray) (qn : Bool) (qa qf : ByteArray), e = .returned (.agg #[.bool pn, .string pa, .string pf, .bool qn, .string qa, .string qf, .bool true]) ∧ LowOK ln la lf n a f pn pa pf ∧ HighOK hn ha hf n a f qn qa qf ∧ Below w.heap.size w w'

theorem zzWith_ok (ln : Bool) (la lf : ByteArray) (hn : Bool) (ha hf : ByteArray) (n : Bool) (a f : ByteArray) (k1 : la.size ≤ 1048576) (k2 : lf.size ≤ 1048576) (k4 : ha.size ≤ 1048576) (k5 : hf.size ≤ 1048576) (k8 : a.size ≤ 1048576) (k9 : f.size ≤ 1048576)
    (cl : Canon la lf) (ch : Canon ha hf) (cn : Canon a f) (w : World) :
    Calls Try.prog 11 #[.agg #[.bool ln, .string la, .string lf, .bool hn, .string ha, .string hf, .bool true], .agg #[.bool n, .string a, .string f]] w (WithPost ln la lf hn ha hf n a f w) := by
  have hx := fun w => compare_any n a f ln la lf k8 k9 k1 k2 cn cl w
  have hy := fun w => compare_any n a f hn ha hf k8 k9 k4 k5 cn ch w
  by_cases h1 : val n a f ln la lf < 0
  · by_cases h2 : 0 < val n a f hn ha hf
    · exact (zzWith_nn ln la lf hn ha hf n a f w _ _ hx hy h1 h2).mono fun e w' ⟨he, hb⟩ => ⟨_, _, _, _, _, _, he, lowOK_n h1 k8 k9, highOK_n h2 k8 k9, hb⟩
    · exact (zzWith_nh ln la lf hn ha hf n a f w _ _ hx hy h1 h2).mono fun e w' ⟨he, hb⟩ => ⟨_, _, _, _, _, _, he, lowOK_n h1 k8 k9, highOK_h h2 k4 k5, hb⟩
  · by_cases h2 : 0 < val n a f hn ha hf
    · exact (zzWith_ln ln la lf hn ha hf n a f w _ _ hx hy h1 h2).mono fun e w' ⟨he, hb⟩ => ⟨_, _, _, _, _, _, he, lowOK_l h1 k1 k2, highOK_n h2 k8 k9, hb⟩
    · exact (zzWith_lh ln la lf hn ha hf n a f w _ _ hx hy h1 h2).mono fun e w' ⟨he, hb⟩ => ⟨_, _, _, _, _, _, he, lowOK_l h1 k1 k2, highOK_h h2 k4 k5, hb⟩
end Go.Proofs.Qxb6604458a.Num
