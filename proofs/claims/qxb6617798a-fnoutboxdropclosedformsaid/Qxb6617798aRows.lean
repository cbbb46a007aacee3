/-
  No cell of these rows narrows 'for every input' (looked for: loops, veiled, ifaces, maps, wideKeys, modest, calm, conditions, laid).
  DERIVED. THE GIVEN ROWS OF THIS SEAT. 2 by the template 'for every input the law returns true; each argument reads behind the call as it read before'; 0 by the template 'total and deterministic' (their statements: Qxb6617798aTotals.lean).
  GIVEN WITH THE SEED: the statements are not yours to turn. If you find one false, say at which input.
  Laid BY PROGRAM, IN A SANDBOX (cutbox-rows.mjs): the forced cells as the released guide's own fill.sh prints them over the translation 8b56520cc8aca42a… (all of the seat's roots in one cut). By AI agents, Wed Nov 11 2026. No macro, syntax, notation, axiom, sorry.
-/
import Derived.Test.Qxb6617798aChecked
import GoSem.Claim
import GoSem.ClaimJoined
import GoSem.ClaimMapViews
import Derived.JoinedTies
import Derived.KernelRfl
namespace Go.Proofs.Qxb6617798a
/- THE CELL 'sum', in the pinned program and in every row, IS THE sha256 OF THE DUMP (.gsa) THAT Qxb6617798aProg.lean LOADS. Nothing in Lean hashes anything: it is a label: what it is worth is what the hold of that sum in a sandbox is worth. -/
noncomputable def Try.pinned : Pinned := { name := "qxb6617798a", sum := "8b56520cc8aca42ab54e60b6699fb59dc3d6fa4fe1eb78c47f222c394bc5fb5d", checked := Try.checked }
namespace Rows
def none {H : Type} : Left H := { results := [], args := [] }

/-- 'zzlaws_pkg_ab_b1.FnOutboxDropClosedForm': WHATEVER THE INPUT: true; the input reads as it did. -/
def fnOutboxDropClosedFormSpec : ChangeSpec := { name := "fnOutboxDropClosedForm", fn := fun _ => fun
  | [d1, d2, d3, d4, d5, d6, d7] => { results := [.lit (.bool true)], args := [d1, d2, d3, d4, d5, d6, d7] }
  | _ => none }
def fnOutboxDropClosedFormRow : OpenClaim := { program := "qxb6617798a", sum := "8b56520cc8aca42ab54e60b6699fb59dc3d6fa4fe1eb78c47f222c394bc5fb5d", func := "example.com/quorate/quorate/zzlaws_pkg_ab_b1.FnOutboxDropClosedForm", spec := "fnOutboxDropClosedForm", apart := false }
def FnOutboxDropClosedFormSaid : Prop := fnOutboxDropClosedFormRow.holds Try.pinned (OpenSpec.ofChange fnOutboxDropClosedFormSpec)

/-- ITS FALSE NEIGHBOUR: 'it returns false'. Refute it at one input. -/
def fnOutboxDropClosedFormWrong : ChangeSpec := { name := "fnOutboxDropClosedForm", fn := fun _ => fun
  | [d1, d2, d3, d4, d5, d6, d7] => { results := [.lit (.bool false)], args := [d1, d2, d3, d4, d5, d6, d7] }
  | _ => none }
def FnOutboxDropClosedFormWrongFalsely : Prop := fnOutboxDropClosedFormRow.holds Try.pinned (OpenSpec.ofChange fnOutboxDropClosedFormWrong)

/-- 'zzlaws_pkg_ab_b1.FnOutboxDropTwiceAtBoundary': WHATEVER THE INPUT: true; the input reads as it did. -/
def fnOutboxDropTwiceAtBoundarySpec : ChangeSpec := { name := "fnOutboxDropTwiceAtBoundary", fn := fun _ => fun
  | [d1, d2, d3, d4, d5, d6, d7, d8] => { results := [.lit (.bool true)], args := [d1, d2, d3, d4, d5, d6, d7, d8] }
  | _ => none }
def fnOutboxDropTwiceAtBoundaryRow : OpenClaim := { program := "qxb6617798a", sum := "8b56520cc8aca42ab54e60b6699fb59dc3d6fa4fe1eb78c47f222c394bc5fb5d", func := "example.com/quorate/quorate/zzlaws_pkg_ab_b1.FnOutboxDropTwiceAtBoundary", spec := "fnOutboxDropTwiceAtBoundary", apart := false }
def FnOutboxDropTwiceAtBoundarySaid : Prop := fnOutboxDropTwiceAtBoundaryRow.holds Try.pinned (OpenSpec.ofChange fnOutboxDropTwiceAtBoundarySpec)

/-- ITS FALSE NEIGHBOUR: 'it returns false'. Refute it at one input. -/
def fnOutboxDropTwiceAtBoundaryWrong : ChangeSpec := { name := "fnOutboxDropTwiceAtBoundary", fn := fun _ => fun
  | [d1, d2, d3, d4, d5, d6, d7, d8] => { results := [.lit (.bool false)], args := [d1, d2, d3, d4, d5, d6, d7, d8] }
  | _ => none }
def FnOutboxDropTwiceAtBoundaryWrongFalsely : Prop := fnOutboxDropTwiceAtBoundaryRow.holds Try.pinned (OpenSpec.ofChange fnOutboxDropTwiceAtBoundaryWrong)

end Rows
end Go.Proofs.Qxb6617798a
