/-
  No cell of these rows narrows 'for every input' (looked for: loops, veiled, ifaces, maps, wideKeys, modest, calm, conditions, laid).
  DERIVED. THE GIVEN ROWS OF THIS SEAT. 3 by the template 'for every input the law returns true; each argument reads behind the call as it read before'; 0 by the template 'total and deterministic' (their statements: Qxb6604227aTotals.lean).
  GIVEN WITH THE SEED: the statements are not yours to turn. If you find one false, say at which input.
  Laid BY PROGRAM, IN A SANDBOX (cutbox-rows.mjs): the forced cells as the released guide's own fill.sh prints them over the translation cc7a10bf2a94a266… (all of the seat's roots in one cut). By AI agents, Wed Nov 11 2026. No macro, syntax, notation, axiom, sorry.
-/
import Derived.Test.Qxb6604227aChecked
import GoSem.Claim
import GoSem.ClaimJoined
import GoSem.ClaimMapViews
import Derived.JoinedTies
import Derived.KernelRfl
namespace Go.Proofs.Qxb6604227a
/- THE CELL 'sum', in the pinned program and in every row, IS THE sha256 OF THE DUMP (.gsa) THAT Qxb6604227aProg.lean LOADS. Nothing in Lean hashes anything: it is a label: what it is worth is what the hold of that sum in a sandbox is worth. -/
noncomputable def Try.pinned : Pinned := { name := "qxb6604227a", sum := "cc7a10bf2a94a2668a54a6e40dd4aa3bb69157f0e0fb52c2888bac3937bdf3ab", checked := Try.checked }
namespace Rows
def none {H : Type} : Left H := { results := [], args := [] }

/-- 'zzlaws_internal_condition_b1.FnFractionMatchesModel': WHATEVER THE INPUT: true; the input reads as it did. -/
def fnFractionMatchesModelSpec : ChangeSpec := { name := "fnFractionMatchesModel", fn := fun _ => fun
  | [d] => { results := [.lit (.bool true)], args := [d] }
  | _ => none }
def fnFractionMatchesModelRow : OpenClaim := { program := "qxb6604227a", sum := "cc7a10bf2a94a2668a54a6e40dd4aa3bb69157f0e0fb52c2888bac3937bdf3ab", func := "example.com/bowerbird/bowerbird/zzlaws_internal_condition_b1.FnFractionMatchesModel", spec := "fnFractionMatchesModel", apart := false }
def FnFractionMatchesModelSaid : Prop := fnFractionMatchesModelRow.holds Try.pinned (OpenSpec.ofChange fnFractionMatchesModelSpec)

/-- ITS FALSE NEIGHBOUR: 'it returns false'. Refute it at one input. -/
def fnFractionMatchesModelWrong : ChangeSpec := { name := "fnFractionMatchesModel", fn := fun _ => fun
  | [d] => { results := [.lit (.bool false)], args := [d] }
  | _ => none }
def FnFractionMatchesModelWrongFalsely : Prop := fnFractionMatchesModelRow.holds Try.pinned (OpenSpec.ofChange fnFractionMatchesModelWrong)

/-- 'zzlaws_internal_condition_b1.FnFractionRoundTrip': WHATEVER THE INPUT: true; the input reads as it did. -/
def fnFractionRoundTripSpec : ChangeSpec := { name := "fnFractionRoundTrip", fn := fun _ => fun
  | [d1, d2, d3, d4] => { results := [.lit (.bool true)], args := [d1, d2, d3, d4] }
  | _ => none }
def fnFractionRoundTripRow : OpenClaim := { program := "qxb6604227a", sum := "cc7a10bf2a94a2668a54a6e40dd4aa3bb69157f0e0fb52c2888bac3937bdf3ab", func := "example.com/bowerbird/bowerbird/zzlaws_internal_condition_b1.FnFractionRoundTrip", spec := "fnFractionRoundTrip", apart := false }
def FnFractionRoundTripSaid : Prop := fnFractionRoundTripRow.holds Try.pinned (OpenSpec.ofChange fnFractionRoundTripSpec)

/-- ITS FALSE NEIGHBOUR: 'it returns false'. Refute it at one input. -/
def fnFractionRoundTripWrong : ChangeSpec := { name := "fnFractionRoundTrip", fn := fun _ => fun
  | [d1, d2, d3, d4] => { results := [.lit (.bool false)], args := [d1, d2, d3, d4] }
  | _ => none }
def FnFractionRoundTripWrongFalsely : Prop := fnFractionRoundTripRow.holds Try.pinned (OpenSpec.ofChange fnFractionRoundTripWrong)

/-- 'zzlaws_internal_condition_b1.FnFitsSelf': WHATEVER THE INPUT: true; the input reads as it did. -/
def fnFitsSelfSpec : ChangeSpec := { name := "fnFitsSelf", fn := fun _ => fun
  | [d] => { results := [.lit (.bool true)], args := [d] }
  | _ => none }
def fnFitsSelfRow : OpenClaim := { program := "qxb6604227a", sum := "cc7a10bf2a94a2668a54a6e40dd4aa3bb69157f0e0fb52c2888bac3937bdf3ab", func := "example.com/bowerbird/bowerbird/zzlaws_internal_condition_b1.FnFitsSelf", spec := "fnFitsSelf", apart := false }
def FnFitsSelfSaid : Prop := fnFitsSelfRow.holds Try.pinned (OpenSpec.ofChange fnFitsSelfSpec)

/-- ITS FALSE NEIGHBOUR: 'it returns false'. Refute it at one input. -/
def fnFitsSelfWrong : ChangeSpec := { name := "fnFitsSelf", fn := fun _ => fun
  | [d] => { results := [.lit (.bool false)], args := [d] }
  | _ => none }
def FnFitsSelfWrongFalsely : Prop := fnFitsSelfRow.holds Try.pinned (OpenSpec.ofChange fnFitsSelfWrong)

end Rows
end Go.Proofs.Qxb6604227a
