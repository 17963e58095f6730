/-
  No cell of these rows narrows 'for every input' (looked for: loops, veiled, ifaces, maps, wideKeys, modest, calm, conditions, laid).
  DERIVED. THE GIVEN ROWS OF THIS SEAT. 2 by the template 'for every input the law returns true; each argument reads behind the call as it read before'; 0 by the template 'total and deterministic' (their statements: Qxb6603635aTotals.lean).
  GIVEN WITH THE SEED: the statements are not yours to turn. If you find one false, say at which input.
  Laid BY PROGRAM, IN A SANDBOX (cutbox-rows.mjs): the forced cells as the released guide's own fill.sh prints them over the translation 7d3f1bd5d23ff5ad… (all of the seat's roots in one cut). By AI agents, Wed Nov 11 2026. No macro, syntax, notation, axiom, sorry.
-/
import Derived.Test.Qxb6603635aChecked
import GoSem.Claim
import GoSem.ClaimJoined
import GoSem.ClaimMapViews
import Derived.JoinedTies
import Derived.KernelRfl
namespace Go.Proofs.Qxb6603635a
/- THE CELL 'sum', in the pinned program and in every row, IS THE sha256 OF THE DUMP (.gsa) THAT Qxb6603635aProg.lean LOADS. Nothing in Lean hashes anything: it is a label: what it is worth is what the hold of that sum in a sandbox is worth. -/
noncomputable def Try.pinned : Pinned := { name := "qxb6603635a", sum := "7d3f1bd5d23ff5ad41d25eaa6eb43ad4309d903362f8099087bfba8aa2a456ee", checked := Try.checked }
namespace Rows
def none {H : Type} : Left H := { results := [], args := [] }

/-- 'zzlaws_internal_identity_b1.FnOrAtOrsListIntoFoundRuns': WHATEVER THE INPUT: true; the input reads as it did. -/
def fnOrAtOrsListIntoFoundRunsSpec : ChangeSpec := { name := "fnOrAtOrsListIntoFoundRuns", fn := fun _ => fun
  | [d1, d2, d3] => { results := [.lit (.bool true)], args := [d1, d2, d3] }
  | _ => none }
def fnOrAtOrsListIntoFoundRunsRow : OpenClaim := { program := "qxb6603635a", sum := "7d3f1bd5d23ff5ad41d25eaa6eb43ad4309d903362f8099087bfba8aa2a456ee", func := "example.com/vouchsafe/vouchsafe/zzlaws_internal_identity_b1.FnOrAtOrsListIntoFoundRuns", spec := "fnOrAtOrsListIntoFoundRuns", unfollowed := true, recurses := true, apart := false }
def FnOrAtOrsListIntoFoundRunsSaid : Prop := fnOrAtOrsListIntoFoundRunsRow.holds Try.pinned (OpenSpec.ofChange fnOrAtOrsListIntoFoundRunsSpec)

/-- ITS FALSE NEIGHBOUR: 'it returns false'. Refute it at one input. -/
def fnOrAtOrsListIntoFoundRunsWrong : ChangeSpec := { name := "fnOrAtOrsListIntoFoundRuns", fn := fun _ => fun
  | [d1, d2, d3] => { results := [.lit (.bool false)], args := [d1, d2, d3] }
  | _ => none }
def FnOrAtOrsListIntoFoundRunsWrongFalsely : Prop := fnOrAtOrsListIntoFoundRunsRow.holds Try.pinned (OpenSpec.ofChange fnOrAtOrsListIntoFoundRunsWrong)

/-- 'zzlaws_internal_identity_b1.FnOrAtListsInEitherOrder': WHATEVER THE INPUT: true; the input reads as it did. -/
def fnOrAtListsInEitherOrderSpec : ChangeSpec := { name := "fnOrAtListsInEitherOrder", fn := fun _ => fun
  | [d1, d2, d3, d4] => { results := [.lit (.bool true)], args := [d1, d2, d3, d4] }
  | _ => none }
def fnOrAtListsInEitherOrderRow : OpenClaim := { program := "qxb6603635a", sum := "7d3f1bd5d23ff5ad41d25eaa6eb43ad4309d903362f8099087bfba8aa2a456ee", func := "example.com/vouchsafe/vouchsafe/zzlaws_internal_identity_b1.FnOrAtListsInEitherOrder", spec := "fnOrAtListsInEitherOrder", unfollowed := true, recurses := true, apart := false }
def FnOrAtListsInEitherOrderSaid : Prop := fnOrAtListsInEitherOrderRow.holds Try.pinned (OpenSpec.ofChange fnOrAtListsInEitherOrderSpec)

/-- ITS FALSE NEIGHBOUR: 'it returns false'. Refute it at one input. -/
def fnOrAtListsInEitherOrderWrong : ChangeSpec := { name := "fnOrAtListsInEitherOrder", fn := fun _ => fun
  | [d1, d2, d3, d4] => { results := [.lit (.bool false)], args := [d1, d2, d3, d4] }
  | _ => none }
def FnOrAtListsInEitherOrderWrongFalsely : Prop := fnOrAtListsInEitherOrderRow.holds Try.pinned (OpenSpec.ofChange fnOrAtListsInEitherOrderWrong)

end Rows
end Go.Proofs.Qxb6603635a
