/-
  A PROOF OF 'Rows.FnOrAtListsInEitherOrderSaid'. The walks lie in the texts that it imports.
-/
import Derived.Test.Qxb6603635aLift
import Derived.Test.Qxb6603635aLaw2W
namespace Go.Proofs.Qxb6603635a.fnOrAtListsInEitherOrder
open Go.ChangeShapes Go.WideShapes Go.ChangeAt Go.RowKit Go.Deep
set_option linter.unusedVariables false

set_option maxRecDepth 100000 in
theorem lifted (os : Os) (started : os.Started) (H : Type) (enc : TypeId × Value → H) :
    ReturnsInHanded {} Try.checked os 4 .any (Rows.fnOrAtListsInEitherOrderSpec.pre6 enc Try.prog Try.f4 Rows.fnOrAtListsInEitherOrderRow.domain false) (Rows.fnOrAtListsInEitherOrderSpec.post enc Try.prog Try.f4 false true false false) := by
  refine returnsInHanded_of_change (C := Try.checked) Or.own started (by kernel_rfl) Try.func4
    (ChangeSpec.witness6 (enc := enc) (C := Try.checked) false ⟨#[], #[.slice none 0 0, .slice none 0 0, .slice none 0 0, .slice none 0 0], []⟩ 8 (by kernel_rfl) (by kernel_rfl) (by kernel_rfl) (by kernel_rfl)) ?_
  intro W base args ds gs before hval0 hW hcnd _
  have hval : ∀ (j : Nat) t v, Try.f4.params[j]? = some t → args[j]? = some v → Value.okWide Try.prog W .any base t v := hval0
  have hW' := hW
  obtain ⟨p, q, hA0, hV, rfl, hfz, hnd⟩ := hW
  have hA : DataW.TrodAll enc Try.prog W 0 (fun _ => true) true Try.f4.params.toList args.toList ds p := hA0
  rw [Try.params4] at hA hval
  obtain ⟨v0, vs0, d0, ds0, p0, q0, hargs, rfl, rfl, h0, r0⟩ := trodAll_cons hA
  obtain ⟨v1, vs1, d1, ds1, p1, q1, rfl, rfl, rfl, h1, r1⟩ := trodAll_cons r0
  obtain ⟨v2, vs2, d2, ds2, p2, q2, rfl, rfl, rfl, h2, r2⟩ := trodAll_cons r1
  obtain ⟨v3, vs3, d3, ds3, p3, q3, rfl, rfl, rfl, h3, r3⟩ := trodAll_cons r2
  obtain ⟨rfl, rfl, rfl⟩ := trodAll_nil r3
  obtain rfl : args = #[v0, v1, v2, v3] := by cases args; simp_all
  obtain ⟨rfl, rfl⟩ := trodVars_none hV
  obtain ⟨a0, len0, cap0, rfl⟩ := okWide_slice Try.underlying22 (hval 0 22 v0 rfl rfl)
  obtain ⟨a1, len1, cap1, rfl⟩ := okWide_slice Try.underlying23 (hval 1 23 v1 rfl rfl)
  obtain ⟨a2, len2, cap2, rfl⟩ := okWide_slice Try.underlying24 (hval 2 24 v2 rfl rfl)
  obtain ⟨a3, len3, cap3, rfl⟩ := okWide_slice Try.underlying24 (hval 3 24 v3 rfl rfl)
  have k3 := h3
  have lt3 : ∀ x ∈ p3, x.block < W.heap.size := by obtain ⟨m, hm⟩ := k3; exact DataW.trod_lt m _ _ _ hm
  obtain ⟨u3, g3⟩ := h3
  obtain ⟨m3, b3, o3, X3, Y3, R3, B3, W3⟩ := Or.pair_arg Try.underlying24 Try.underlying49 Or.cells49 rfl rfl Or.cells3 Or.cells37 Try.underlying3 Try.underlying37 (by simpa [Value.cells] using g3)
  have k0 := h0
  have k1 := h1
  have k2 := h2
  have lt0 : ∀ x ∈ p0, x.block < W.heap.size := by obtain ⟨m, hm⟩ := k0; exact DataW.trod_lt m _ _ _ hm
  have lt1 : ∀ x ∈ p1, x.block < W.heap.size := by obtain ⟨m, hm⟩ := k1; exact DataW.trod_lt m _ _ _ hm
  have lt2 : ∀ x ∈ p2, x.block < W.heap.size := by obtain ⟨m, hm⟩ := k2; exact DataW.trod_lt m _ _ _ hm
  obtain ⟨u0, g0⟩ := h0
  obtain ⟨u1, g1⟩ := h1
  obtain ⟨u2, g2⟩ := h2
  obtain ⟨m0, b0, o0, X0, Y0, R0, B0, W0⟩ := Or.pair_arg Try.underlying22 Try.underlying46 Or.cells46 rfl rfl Or.cells37 Or.cells37 Try.underlying37 Try.underlying37 (by simpa [Value.cells] using g0)
  obtain ⟨m1, b1, o1, A, R1, B1⟩ := Or.int_arg (by simpa [Value.cells] using g1)
  obtain ⟨m2, b2, o2, X2, Y2, R2, B2, W2⟩ := Or.pair_arg Try.underlying24 Try.underlying49 Or.cells49 rfl rfl Or.cells3 Or.cells37 Try.underlying3 Try.underlying37 (by simpa [Value.cells] using g2)
  obtain ⟨F, K, R0', hF, hK⟩ := R0.nat0 W0
  obtain ⟨B, R2', hB⟩ := R2.nat1 W2
  obtain ⟨D, R3', hD⟩ := R3.nat1 W3
  clear hA0 hval0
  refine (Or.law2 a0 a1 a2 a3 b0 o0 len0 cap0 b1 o1 len1 cap1 b2 o2 len2 cap2 b3 o3 len3 cap3 F K B D A X2 X3 W m0 m1 m2 m3 R0' R1 R2' R3' B0 B1 B2 B3 hF hK hB hD).mono fun e W' ⟨he, bel⟩ => ?_
  subst he
  exact ⟨_, rfl, _, _, _, [], _, [], hW', trodAll_mk1 (shut_bool Try.underlying4 _),
    (trodAll_cons_mk (Below.trod Or.laidOut (by kernel_rfl) (of_decide_eq_true (by kernel_rfl)) k0 bel lt0)
      (trodAll_cons_mk (Below.trod Or.laidOut (by kernel_rfl) (of_decide_eq_true (by kernel_rfl)) k1 bel lt1)
        (trodAll_cons_mk (Below.trod Or.laidOut (by kernel_rfl) (of_decide_eq_true (by kernel_rfl)) k2 bel lt2)
          (trodAll_cons_mk (Below.trod Or.laidOut (by kernel_rfl) (of_decide_eq_true (by kernel_rfl)) k3 bel lt3) trodAll_mk0)))), rfl, bel.frame _, fun h => by cases h⟩

theorem over : Rows.fnOrAtListsInEitherOrderRow.holds Try.pinned (OpenSpec.ofChange Rows.fnOrAtListsInEitherOrderSpec) :=
  OpenClaim.holds_of_wide 4 Try.f4 rfl rfl rfl rfl rfl rfl rfl ⟨rfl, rfl, rfl, rfl, rfl⟩ rfl rfl rfl rfl rfl (by kernel_rfl) Try.func4 (by kernel_rfl)
    (of_decide_eq_true (by kernel_rfl)) (by unfold Func.isWrapper; first | (rw [if_pos (by decide +kernel)]; kernel_rfl) | (rw [if_neg (by decide +kernel)]; exact ⟨rfl, rfl⟩))
    (fun os started H enc _ => lifted os started H enc)

theorem proved : Rows.FnOrAtListsInEitherOrderSaid := over
#print axioms proved
end Go.Proofs.Qxb6603635a.fnOrAtListsInEitherOrder
