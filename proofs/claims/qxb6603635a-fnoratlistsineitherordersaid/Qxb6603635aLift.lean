import Derived.Test.Qxb6603635aLaw1
import Derived.ProofKit
import Derived.OpenShut
import Derived.ChangeOld
import Derived.Deep.SlicePairs
namespace Go.Proofs.Qxb6603635a.Or
open Go.ChangeShapes Go.WideShapes Go.ChangeAt Go.RowKit Go.Deep
set_option linter.unusedVariables false

theorem own : ownKnob Try.prog.godebug = none := by kernel_rfl
theorem laidOut : laidOutB Try.prog = true := by kernel_rfl
theorem cells46 : Try.prog.cellsOf 46 = 2 := by kernel_rfl
theorem cells49 : Try.prog.cellsOf 49 = 2 := by kernel_rfl
theorem cells37 : Try.prog.cellsOf 37 = 1 := by kernel_rfl
theorem cells3 : Try.prog.cellsOf 3 = 1 := by kernel_rfl

/-- What the walk is told of a slice of pairs that came in. -/
def PairArg (W : World) (a : Option Addr) (len : Nat) (k0 k1 : IntKind) : Prop :=
  len ≤ maxLen ∧ ∃ (b off : Nat) (X Y : Nat → Int), PairRow W a b off len (fun i => .int k0 (X i)) (fun i => .int k1 (Y i)) ∧ (0 < len → b < W.heap.size) ∧ ∀ i, i < len → (Lit.int k0 (X i)).wf = true ∧ (Lit.int k1 (Y i)).wf = true

theorem pair_arg {H : Type} {enc : TypeId × Value → H} {W : World} {base : Nat} {spare : Nat → Bool} {held : Bool} {t e : TypeId} {f0 f1 : Field} {k0 k1 : IntKind} {fuel : Nat} {a : Option Addr} {len cap : Nat} {x : DataW H × List MemPlace}
    (ht : Try.prog.underlying t = some (.slice e)) (he : Try.prog.underlying e = some (.struct #[f0, f1])) (ce : Try.prog.cellsOf e = 2) (o0 : f0.offset = 0) (o1 : f1.offset = 1)
    (c0 : Try.prog.cellsOf f0.type = 1) (c1 : Try.prog.cellsOf f1.type = 1) (u0 : Try.prog.underlying f0.type = some (.int k0)) (u1 : Try.prog.underlying f1.type = some (.int k1))
    (h : DataW.trod enc Try.prog W base spare held fuel t [.slice a len cap] = some x) : PairArg W a len k0 k1 := by
  rcases open_slice_pairs ht he ce o0 o1 c0 c1 h with ⟨hcs, _⟩ | ⟨ad, l, c, m, n, V0, V1, D0, D1, P0, P1, hcs, _, hl, hm, hmm, _, hx⟩
  · simp at hcs
    obtain ⟨rfl, rfl, rfl⟩ := hcs
    exact ⟨by simp, 0, 0, fun _ => 0, fun _ => 0, ⟨fun h => by omega, fun i hi => by omega⟩, fun h => by omega, fun i hi => by omega⟩
  · simp at hcs
    obtain ⟨rfl, rfl, rfl⟩ := hcs
    have hlm : len ≤ m := by rw [hmm]; split <;> omega
    refine ⟨by omega, ?_⟩
    have each : ∀ i, i < len → ∃ q : Int × Int, V0 i = .int k0 q.1 ∧ V1 i = .int k1 q.2 ∧ (Lit.int k0 q.1).wf = true ∧ (Lit.int k1 q.2).wf = true := by
      intro i hi
      obtain ⟨_, _, h2, h3⟩ := hx i (by omega)
      obtain ⟨z0, e0, _, w0⟩ := DataW.trod_int u0 h2
      obtain ⟨z1, e1, _, w1⟩ := DataW.trod_int u1 h3
      simp at e0 e1
      exact ⟨(z0, z1), e0, e1, w0, w1⟩
    obtain ⟨q, hq⟩ := choose_lt each
    by_cases hz : len = 0
    · subst hz
      exact ⟨0, 0, fun _ => 0, fun _ => 0, ⟨fun h => by omega, fun i hi => by omega⟩, fun h => by omega, fun i hi => by omega⟩
    · obtain ⟨b, off, spot⟩ := ad
      have h00 := (hx 0 (by omega)).1
      have hspot : spot = none := by simpa [Addr.add] using World.cell?_spot h00
      subst hspot
      refine ⟨b, off, fun i => (q i).1, fun i => (q i).2, ⟨fun _ => rfl, fun i hi => ?_⟩, fun _ => World.block_lt_of_cell? _ _ h00, fun i hi => ⟨(hq i hi).2.2.1, (hq i hi).2.2.2⟩⟩
      obtain ⟨h0, h1, _, _⟩ := hx i (by omega)
      rw [add_plain] at h0 h1
      rw [(hq i hi).1] at h0
      rw [(hq i hi).2.1] at h1
      exact ⟨h0, by rw [← Nat.add_assoc] at h1; exact h1⟩

theorem int_arg {H : Type} {enc : TypeId × Value → H} {W : World} {base : Nat} {spare : Nat → Bool} {held : Bool} {fuel : Nat} {a : Option Addr} {len cap : Nat} {x : DataW H × List MemPlace}
    (h : DataW.trod enc Try.prog W base spare held fuel 23 [.slice a len cap] = some x) : len ≤ maxLen ∧ ∃ (b off : Nat) (A : Nat → Int), IntRow W a b off len A ∧ (0 < len → b < W.heap.size) := by
  rcases open_ints Try.underlying23 Try.underlying3 cells3 h with ⟨hcs, _⟩ | ⟨ad, l, c, zs, hcs, _, hl, hm, hz, _, hcell, _⟩
  · simp at hcs
    obtain ⟨rfl, rfl, rfl⟩ := hcs
    exact ⟨by simp, 0, 0, fun _ => 0, ⟨fun h => by omega, fun i hi => by omega⟩, fun h => by omega⟩
  · simp at hcs
    obtain ⟨rfl, rfl, rfl⟩ := hcs
    have hlz : len ≤ zs.length := by rw [hz]; split <;> omega
    refine ⟨by omega, ?_⟩
    by_cases h0 : len = 0
    · subst h0
      exact ⟨0, 0, fun _ => 0, ⟨fun h => by omega, fun i hi => by omega⟩, fun h => by omega⟩
    · obtain ⟨b, off, spot⟩ := ad
      have h00 := hcell 0 (by omega)
      have hspot : spot = none := by simpa [Addr.add] using World.cell?_spot h00
      subst hspot
      exact ⟨b, off, fun i => zs.getD i 0, ⟨fun _ => rfl, fun i hi => by rw [← add_plain]; exact hcell i (by omega)⟩, fun _ => World.block_lt_of_cell? _ _ h00⟩

/-- From Int to Nat: the runs. -/
theorem PairRow.nat0 {W : World} {a : Option Addr} {b off len : Nat} {X Y : Nat → Int} (h : PairRow W a b off len (fun i => .int .u64 (X i)) (fun i => .int .u64 (Y i))) (hw : ∀ i, i < len → (Lit.int .u64 (X i)).wf = true ∧ (Lit.int .u64 (Y i)).wf = true) :
    ∃ F K : Nat → Nat, PairRow W a b off len (fun i => .int .u64 (F i : Nat)) (fun i => .int .u64 (K i : Nat)) ∧ (∀ i, F i < 18446744073709551616) ∧ ∀ i, K i < 18446744073709551616 := by
  refine ⟨fun i => if i < len then (X i).toNat else 0, fun i => if i < len then (Y i).toNat else 0, ⟨h.1, fun i hi => ?_⟩, fun i => ?_, fun i => ?_⟩
  · have b0 := bounds_u64 (hw i hi).1
    have b1 := bounds_u64 (hw i hi).2
    simp only [if_pos hi]
    rw [Int.toNat_of_nonneg b0.1, Int.toNat_of_nonneg b1.1]
    exact h.2 i hi
  · dsimp only
    split
    · rename_i hi
      have b0 := bounds_u64 (hw i hi).1
      omega
    · omega
  · dsimp only
    split
    · rename_i hi
      have b0 := bounds_u64 (hw i hi).2
      omega
    · omega
theorem PairRow.nat1 {W : World} {a : Option Addr} {b off len : Nat} {X Y : Nat → Int} (h : PairRow W a b off len (fun i => .int .i64 (X i)) (fun i => .int .u64 (Y i))) (hw : ∀ i, i < len → (Lit.int .i64 (X i)).wf = true ∧ (Lit.int .u64 (Y i)).wf = true) :
    ∃ K : Nat → Nat, PairRow W a b off len (fun i => .int .i64 (X i)) (fun i => .int .u64 (K i : Nat)) ∧ ∀ i, K i < 18446744073709551616 := by
  refine ⟨fun i => if i < len then (Y i).toNat else 0, ⟨h.1, fun i hi => ?_⟩, fun i => ?_⟩
  · have b1 := bounds_u64 (hw i hi).2
    simp only [if_pos hi]
    rw [Int.toNat_of_nonneg b1.1]
    exact h.2 i hi
  · dsimp only
    split
    · rename_i hi
      have b0 := bounds_u64 (hw i hi).2
      omega
    · omega
end Go.Proofs.Qxb6603635a.Or
