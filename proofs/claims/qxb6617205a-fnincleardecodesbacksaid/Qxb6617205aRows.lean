/-
  No cell of these rows narrows 'for every input' (looked for: loops, veiled, ifaces, maps, wideKeys, modest, calm, conditions, laid).
  DERIVED. THE GIVEN ROWS OF THIS SEAT. 2 by the template 'for every input the law returns true; each argument reads behind the call as it read before'; 0 by the template 'total and deterministic' (their statements: Qxb6617205aTotals.lean).
  GIVEN WITH THE SEED: the statements are not yours to turn. If you find one false, say at which input.
  Laid BY PROGRAM, IN A SANDBOX (cutbox-rows.mjs): the forced cells as the released guide's own fill.sh prints them over the translation 04ec74069cd494b7… (all of the seat's roots in one cut). By AI agents, Wed Nov 11 2026. No macro, syntax, notation, axiom, sorry.
-/
import Derived.Test.Qxb6617205aChecked
import GoSem.Claim
import GoSem.ClaimJoined
import GoSem.ClaimMapViews
import Derived.JoinedTies
import Derived.KernelRfl
namespace Go.Proofs.Qxb6617205a
/- THE CELL 'sum', in the pinned program and in every row, IS THE sha256 OF THE DUMP (.gsa) THAT Qxb6617205aProg.lean LOADS. Nothing in Lean hashes anything: it is a label: what it is worth is what the hold of that sum in a sandbox is worth. -/
noncomputable def Try.pinned : Pinned := { name := "qxb6617205a", sum := "04ec74069cd494b7fc1ac4d089bc9115c4956c5825525d4f6b724188d26236eb", checked := Try.checked }
namespace Rows
def none {H : Type} : Left H := { results := [], args := [] }

/-- 'zzlaws_pkg_subscriber_b1.FnInClearDecodesBack': WHATEVER THE INPUT: true; the input reads as it did. -/
def fnInClearDecodesBackSpec : ChangeSpec := { name := "fnInClearDecodesBack", fn := fun _ => fun
  | [d1, d2, d3, d4, d5, d6, d7, d8, d9] => { results := [.lit (.bool true)], args := [d1, d2, d3, d4, d5, d6, d7, d8, d9] }
  | _ => none }
def fnInClearDecodesBackRow : OpenClaim := { program := "qxb6617205a", sum := "04ec74069cd494b7fc1ac4d089bc9115c4956c5825525d4f6b724188d26236eb", func := "example.com/subscriber-keep/subscriber-keep/zzlaws_pkg_subscriber_b1.FnInClearDecodesBack", spec := "fnInClearDecodesBack", apart := false }
def FnInClearDecodesBackSaid : Prop := fnInClearDecodesBackRow.holds Try.pinned (OpenSpec.ofChange fnInClearDecodesBackSpec)

/-- ITS FALSE NEIGHBOUR: 'it returns false'. Refute it at one input. -/
def fnInClearDecodesBackWrong : ChangeSpec := { name := "fnInClearDecodesBack", fn := fun _ => fun
  | [d1, d2, d3, d4, d5, d6, d7, d8, d9] => { results := [.lit (.bool false)], args := [d1, d2, d3, d4, d5, d6, d7, d8, d9] }
  | _ => none }
def FnInClearDecodesBackWrongFalsely : Prop := fnInClearDecodesBackRow.holds Try.pinned (OpenSpec.ofChange fnInClearDecodesBackWrong)

/-- 'zzlaws_pkg_subscriber_b1.FnInClearCutAnywhere': WHATEVER THE INPUT: true; the input reads as it did. -/
def fnInClearCutAnywhereSpec : ChangeSpec := { name := "fnInClearCutAnywhere", fn := fun _ => fun
  | [d1, d2, d3, d4, d5, d6, d7, d8, d9, d10] => { results := [.lit (.bool true)], args := [d1, d2, d3, d4, d5, d6, d7, d8, d9, d10] }
  | _ => none }
def fnInClearCutAnywhereRow : OpenClaim := { program := "qxb6617205a", sum := "04ec74069cd494b7fc1ac4d089bc9115c4956c5825525d4f6b724188d26236eb", func := "example.com/subscriber-keep/subscriber-keep/zzlaws_pkg_subscriber_b1.FnInClearCutAnywhere", spec := "fnInClearCutAnywhere", apart := false }
def FnInClearCutAnywhereSaid : Prop := fnInClearCutAnywhereRow.holds Try.pinned (OpenSpec.ofChange fnInClearCutAnywhereSpec)

/-- ITS FALSE NEIGHBOUR: 'it returns false'. Refute it at one input. -/
def fnInClearCutAnywhereWrong : ChangeSpec := { name := "fnInClearCutAnywhere", fn := fun _ => fun
  | [d1, d2, d3, d4, d5, d6, d7, d8, d9, d10] => { results := [.lit (.bool false)], args := [d1, d2, d3, d4, d5, d6, d7, d8, d9, d10] }
  | _ => none }
def FnInClearCutAnywhereWrongFalsely : Prop := fnInClearCutAnywhereRow.holds Try.pinned (OpenSpec.ofChange fnInClearCutAnywhereWrong)

end Rows
end Go.Proofs.Qxb6617205a
