/-
  No cell of these rows narrows 'for every input' (looked for: loops, veiled, ifaces, maps, wideKeys, modest, calm, conditions, laid).
  DERIVED. THE GIVEN ROWS OF THIS SEAT. 2 by the template 'for every input the law returns true; each argument reads behind the call as it read before'; 0 by the template 'total and deterministic' (their statements: Qxb6616504aTotals.lean).
  GIVEN WITH THE SEED: the statements are not yours to turn. If you find one false, say at which input.
  Laid BY PROGRAM, IN A SANDBOX (cutbox-rows.mjs): the forced cells as the released guide's own fill.sh prints them over the translation 7e5b602902fb9cf9… (all of the seat's roots in one cut). By AI agents, Wed Nov 11 2026. No macro, syntax, notation, axiom, sorry.
-/
import Derived.Test.Qxb6616504aChecked
import GoSem.Claim
import GoSem.ClaimJoined
import GoSem.ClaimMapViews
import Derived.JoinedTies
import Derived.KernelRfl
namespace Go.Proofs.Qxb6616504a
/- THE CELL 'sum', in the pinned program and in every row, IS THE sha256 OF THE DUMP (.gsa) THAT Qxb6616504aProg.lean LOADS. Nothing in Lean hashes anything: it is a label: what it is worth is what the hold of that sum in a sandbox is worth. -/
noncomputable def Try.pinned : Pinned := { name := "qxb6616504a", sum := "7e5b602902fb9cf92146cfeaaa74ff40616a9f6c01f848f9813fcef16d52324d", checked := Try.checked }
namespace Rows
def none {H : Type} : Left H := { results := [], args := [] }

/-- 'zzlaws_root_b1.FnHasOrStarAfterAddingName': WHATEVER THE INPUT: true; the input reads as it did. -/
def fnHasOrStarAfterAddingNameSpec : ChangeSpec := { name := "fnHasOrStarAfterAddingName", fn := fun _ => fun
  | [d1, d2, d3] => { results := [.lit (.bool true)], args := [d1, d2, d3] }
  | _ => none }
def fnHasOrStarAfterAddingNameRow : OpenClaim := { program := "qxb6616504a", sum := "7e5b602902fb9cf92146cfeaaa74ff40616a9f6c01f848f9813fcef16d52324d", func := "example.com/mlinzi/mlinzi/zzlaws_root_b1.FnHasOrStarAfterAddingName", spec := "fnHasOrStarAfterAddingName", apart := false }
def FnHasOrStarAfterAddingNameSaid : Prop := fnHasOrStarAfterAddingNameRow.holds Try.pinned (OpenSpec.ofChange fnHasOrStarAfterAddingNameSpec)

/-- ITS FALSE NEIGHBOUR: 'it returns false'. Refute it at one input. -/
def fnHasOrStarAfterAddingNameWrong : ChangeSpec := { name := "fnHasOrStarAfterAddingName", fn := fun _ => fun
  | [d1, d2, d3] => { results := [.lit (.bool false)], args := [d1, d2, d3] }
  | _ => none }
def FnHasOrStarAfterAddingNameWrongFalsely : Prop := fnHasOrStarAfterAddingNameRow.holds Try.pinned (OpenSpec.ofChange fnHasOrStarAfterAddingNameWrong)

/-- 'zzlaws_root_b1.FnHasOrStarStarCoversEveryName': WHATEVER THE INPUT: true; the input reads as it did. -/
def fnHasOrStarStarCoversEveryNameSpec : ChangeSpec := { name := "fnHasOrStarStarCoversEveryName", fn := fun _ => fun
  | [d1, d2] => { results := [.lit (.bool true)], args := [d1, d2] }
  | _ => none }
def fnHasOrStarStarCoversEveryNameRow : OpenClaim := { program := "qxb6616504a", sum := "7e5b602902fb9cf92146cfeaaa74ff40616a9f6c01f848f9813fcef16d52324d", func := "example.com/mlinzi/mlinzi/zzlaws_root_b1.FnHasOrStarStarCoversEveryName", spec := "fnHasOrStarStarCoversEveryName", apart := false }
def FnHasOrStarStarCoversEveryNameSaid : Prop := fnHasOrStarStarCoversEveryNameRow.holds Try.pinned (OpenSpec.ofChange fnHasOrStarStarCoversEveryNameSpec)

/-- ITS FALSE NEIGHBOUR: 'it returns false'. Refute it at one input. -/
def fnHasOrStarStarCoversEveryNameWrong : ChangeSpec := { name := "fnHasOrStarStarCoversEveryName", fn := fun _ => fun
  | [d1, d2] => { results := [.lit (.bool false)], args := [d1, d2] }
  | _ => none }
def FnHasOrStarStarCoversEveryNameWrongFalsely : Prop := fnHasOrStarStarCoversEveryNameRow.holds Try.pinned (OpenSpec.ofChange fnHasOrStarStarCoversEveryNameWrong)

end Rows
end Go.Proofs.Qxb6616504a
