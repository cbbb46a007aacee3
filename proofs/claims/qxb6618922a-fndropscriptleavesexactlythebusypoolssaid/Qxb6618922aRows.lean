/-
  No cell of these rows narrows 'for every input' (looked for: loops, veiled, ifaces, maps, wideKeys, modest, calm, conditions, laid).
  DERIVED. THE GIVEN ROWS OF THIS SEAT. 6 by the template 'for every input the law returns true; each argument reads behind the call as it read before'; 0 by the template 'total and deterministic' (their statements: Qxb6618922aTotals.lean).
  GIVEN WITH THE SEED: the statements are not yours to turn. If you find one false, say at which input.
  Laid BY PROGRAM, IN A SANDBOX (cutbox-rows.mjs): the forced cells as the released guide's own fill.sh prints them over the translation 6fd012f228a52b81… (all of the seat's roots in one cut). By AI agents, Wed Nov 11 2026. No macro, syntax, notation, axiom, sorry.
-/
import Derived.Test.Qxb6618922aChecked
import GoSem.Claim
import GoSem.ClaimJoined
import GoSem.ClaimMapViews
import Derived.JoinedTies
import Derived.KernelRfl
namespace Go.Proofs.Qxb6618922a
/- THE CELL 'sum', in the pinned program and in every row, IS THE sha256 OF THE DUMP (.gsa) THAT Qxb6618922aProg.lean LOADS. Nothing in Lean hashes anything: it is a label: what it is worth is what the hold of that sum in a sandbox is worth. -/
noncomputable def Try.pinned : Pinned := { name := "qxb6618922a", sum := "6fd012f228a52b811bb7c6cfe489c7678f0849ee77820abaaa7d910e6640000f", checked := Try.checked }
namespace Rows
def none {H : Type} : Left H := { results := [], args := [] }

/-- 'zzlaws_internal_store_b1.FnPayloadCutsAtAnyTopic': WHATEVER THE INPUT: true; the input reads as it did. -/
def fnPayloadCutsAtAnyTopicSpec : ChangeSpec := { name := "fnPayloadCutsAtAnyTopic", fn := fun _ => fun
  | [d1, d2, d3] => { results := [.lit (.bool true)], args := [d1, d2, d3] }
  | _ => none }
def fnPayloadCutsAtAnyTopicRow : OpenClaim := { program := "qxb6618922a", sum := "6fd012f228a52b811bb7c6cfe489c7678f0849ee77820abaaa7d910e6640000f", func := "example.com/kick1/kick1/zzlaws_internal_store_b1.FnPayloadCutsAtAnyTopic", spec := "fnPayloadCutsAtAnyTopic", inPlace := ["internal/abi.NoEscape", "internal/bytealg.MakeNoZero"], apart := false }
def FnPayloadCutsAtAnyTopicSaid : Prop := fnPayloadCutsAtAnyTopicRow.holds Try.pinned (OpenSpec.ofChange fnPayloadCutsAtAnyTopicSpec)

/-- ITS FALSE NEIGHBOUR: 'it returns false'. Refute it at one input. -/
def fnPayloadCutsAtAnyTopicWrong : ChangeSpec := { name := "fnPayloadCutsAtAnyTopic", fn := fun _ => fun
  | [d1, d2, d3] => { results := [.lit (.bool false)], args := [d1, d2, d3] }
  | _ => none }
def FnPayloadCutsAtAnyTopicWrongFalsely : Prop := fnPayloadCutsAtAnyTopicRow.holds Try.pinned (OpenSpec.ofChange fnPayloadCutsAtAnyTopicWrong)

/-- 'zzlaws_internal_store_b1.FnPayloadSplitsIntoTheWordsOfOriginThenTopics': WHATEVER THE INPUT: true; the input reads as it did. -/
def fnPayloadSplitsIntoTheWordsOfOriginThenTopicsSpec : ChangeSpec := { name := "fnPayloadSplitsIntoTheWordsOfOriginThenTopics", fn := fun _ => fun
  | [d1, d2] => { results := [.lit (.bool true)], args := [d1, d2] }
  | _ => none }
def fnPayloadSplitsIntoTheWordsOfOriginThenTopicsRow : OpenClaim := { program := "qxb6618922a", sum := "6fd012f228a52b811bb7c6cfe489c7678f0849ee77820abaaa7d910e6640000f", func := "example.com/kick1/kick1/zzlaws_internal_store_b1.FnPayloadSplitsIntoTheWordsOfOriginThenTopics", spec := "fnPayloadSplitsIntoTheWordsOfOriginThenTopics", inPlace := ["internal/abi.NoEscape", "internal/bytealg.MakeNoZero"], apart := false }
def FnPayloadSplitsIntoTheWordsOfOriginThenTopicsSaid : Prop := fnPayloadSplitsIntoTheWordsOfOriginThenTopicsRow.holds Try.pinned (OpenSpec.ofChange fnPayloadSplitsIntoTheWordsOfOriginThenTopicsSpec)

/-- ITS FALSE NEIGHBOUR: 'it returns false'. Refute it at one input. -/
def fnPayloadSplitsIntoTheWordsOfOriginThenTopicsWrong : ChangeSpec := { name := "fnPayloadSplitsIntoTheWordsOfOriginThenTopics", fn := fun _ => fun
  | [d1, d2] => { results := [.lit (.bool false)], args := [d1, d2] }
  | _ => none }
def FnPayloadSplitsIntoTheWordsOfOriginThenTopicsWrongFalsely : Prop := fnPayloadSplitsIntoTheWordsOfOriginThenTopicsRow.holds Try.pinned (OpenSpec.ofChange fnPayloadSplitsIntoTheWordsOfOriginThenTopicsWrong)

/-- 'zzlaws_internal_store_b1.FnPoolPreferencesIsOneFrameForEveryCondition': WHATEVER THE INPUT: true; the input reads as it did. -/
def fnPoolPreferencesIsOneFrameForEveryConditionSpec : ChangeSpec := { name := "fnPoolPreferencesIsOneFrameForEveryCondition", fn := fun _ => fun
  | [d1, d2] => { results := [.lit (.bool true)], args := [d1, d2] }
  | _ => none }
def fnPoolPreferencesIsOneFrameForEveryConditionRow : OpenClaim := { program := "qxb6618922a", sum := "6fd012f228a52b811bb7c6cfe489c7678f0849ee77820abaaa7d910e6640000f", func := "example.com/kick1/kick1/zzlaws_internal_store_b1.FnPoolPreferencesIsOneFrameForEveryCondition", spec := "fnPoolPreferencesIsOneFrameForEveryCondition", apart := false }
def FnPoolPreferencesIsOneFrameForEveryConditionSaid : Prop := fnPoolPreferencesIsOneFrameForEveryConditionRow.holds Try.pinned (OpenSpec.ofChange fnPoolPreferencesIsOneFrameForEveryConditionSpec)

/-- ITS FALSE NEIGHBOUR: 'it returns false'. Refute it at one input. -/
def fnPoolPreferencesIsOneFrameForEveryConditionWrong : ChangeSpec := { name := "fnPoolPreferencesIsOneFrameForEveryCondition", fn := fun _ => fun
  | [d1, d2] => { results := [.lit (.bool false)], args := [d1, d2] }
  | _ => none }
def FnPoolPreferencesIsOneFrameForEveryConditionWrongFalsely : Prop := fnPoolPreferencesIsOneFrameForEveryConditionRow.holds Try.pinned (OpenSpec.ofChange fnPoolPreferencesIsOneFrameForEveryConditionWrong)

/-- 'zzlaws_internal_store_b1.FnPoolPreferencesWrapsTheConditionInOneParenthesis': WHATEVER THE INPUT: true; the input reads as it did. -/
def fnPoolPreferencesWrapsTheConditionInOneParenthesisSpec : ChangeSpec := { name := "fnPoolPreferencesWrapsTheConditionInOneParenthesis", fn := fun _ => fun
  | [d] => { results := [.lit (.bool true)], args := [d] }
  | _ => none }
def fnPoolPreferencesWrapsTheConditionInOneParenthesisRow : OpenClaim := { program := "qxb6618922a", sum := "6fd012f228a52b811bb7c6cfe489c7678f0849ee77820abaaa7d910e6640000f", func := "example.com/kick1/kick1/zzlaws_internal_store_b1.FnPoolPreferencesWrapsTheConditionInOneParenthesis", spec := "fnPoolPreferencesWrapsTheConditionInOneParenthesis", apart := false }
def FnPoolPreferencesWrapsTheConditionInOneParenthesisSaid : Prop := fnPoolPreferencesWrapsTheConditionInOneParenthesisRow.holds Try.pinned (OpenSpec.ofChange fnPoolPreferencesWrapsTheConditionInOneParenthesisSpec)

/-- ITS FALSE NEIGHBOUR: 'it returns false'. Refute it at one input. -/
def fnPoolPreferencesWrapsTheConditionInOneParenthesisWrong : ChangeSpec := { name := "fnPoolPreferencesWrapsTheConditionInOneParenthesis", fn := fun _ => fun
  | [d] => { results := [.lit (.bool false)], args := [d] }
  | _ => none }
def FnPoolPreferencesWrapsTheConditionInOneParenthesisWrongFalsely : Prop := fnPoolPreferencesWrapsTheConditionInOneParenthesisRow.holds Try.pinned (OpenSpec.ofChange fnPoolPreferencesWrapsTheConditionInOneParenthesisWrong)

/-- 'zzlaws_internal_store_b1.FnDropForgetsOnlyTheIdlePoolItIsGiven': WHATEVER THE INPUT: true; the input reads as it did. -/
def fnDropForgetsOnlyTheIdlePoolItIsGivenSpec : ChangeSpec := { name := "fnDropForgetsOnlyTheIdlePoolItIsGiven", fn := fun _ => fun
  | [d1, d2, d3, d4, d5, d6] => { results := [.lit (.bool true)], args := [d1, d2, d3, d4, d5, d6] }
  | _ => none }
def fnDropForgetsOnlyTheIdlePoolItIsGivenRow : OpenClaim := { program := "qxb6618922a", sum := "6fd012f228a52b811bb7c6cfe489c7678f0849ee77820abaaa7d910e6640000f", func := "example.com/kick1/kick1/zzlaws_internal_store_b1.FnDropForgetsOnlyTheIdlePoolItIsGiven", spec := "fnDropForgetsOnlyTheIdlePoolItIsGiven", apart := false }
def FnDropForgetsOnlyTheIdlePoolItIsGivenSaid : Prop := fnDropForgetsOnlyTheIdlePoolItIsGivenRow.holds Try.pinned (OpenSpec.ofChange fnDropForgetsOnlyTheIdlePoolItIsGivenSpec)

/-- ITS FALSE NEIGHBOUR: 'it returns false'. Refute it at one input. -/
def fnDropForgetsOnlyTheIdlePoolItIsGivenWrong : ChangeSpec := { name := "fnDropForgetsOnlyTheIdlePoolItIsGiven", fn := fun _ => fun
  | [d1, d2, d3, d4, d5, d6] => { results := [.lit (.bool false)], args := [d1, d2, d3, d4, d5, d6] }
  | _ => none }
def FnDropForgetsOnlyTheIdlePoolItIsGivenWrongFalsely : Prop := fnDropForgetsOnlyTheIdlePoolItIsGivenRow.holds Try.pinned (OpenSpec.ofChange fnDropForgetsOnlyTheIdlePoolItIsGivenWrong)

/-- 'zzlaws_internal_store_b1.FnDropScriptLeavesExactlyTheBusyPools': WHATEVER THE INPUT: true; the input reads as it did. -/
def fnDropScriptLeavesExactlyTheBusyPoolsSpec : ChangeSpec := { name := "fnDropScriptLeavesExactlyTheBusyPools", fn := fun _ => fun
  | [d] => { results := [.lit (.bool true)], args := [d] }
  | _ => none }
def fnDropScriptLeavesExactlyTheBusyPoolsRow : OpenClaim := { program := "qxb6618922a", sum := "6fd012f228a52b811bb7c6cfe489c7678f0849ee77820abaaa7d910e6640000f", func := "example.com/kick1/kick1/zzlaws_internal_store_b1.FnDropScriptLeavesExactlyTheBusyPools", spec := "fnDropScriptLeavesExactlyTheBusyPools", apart := false }
def FnDropScriptLeavesExactlyTheBusyPoolsSaid : Prop := fnDropScriptLeavesExactlyTheBusyPoolsRow.holds Try.pinned (OpenSpec.ofChange fnDropScriptLeavesExactlyTheBusyPoolsSpec)

/-- ITS FALSE NEIGHBOUR: 'it returns false'. Refute it at one input. -/
def fnDropScriptLeavesExactlyTheBusyPoolsWrong : ChangeSpec := { name := "fnDropScriptLeavesExactlyTheBusyPools", fn := fun _ => fun
  | [d] => { results := [.lit (.bool false)], args := [d] }
  | _ => none }
def FnDropScriptLeavesExactlyTheBusyPoolsWrongFalsely : Prop := fnDropScriptLeavesExactlyTheBusyPoolsRow.holds Try.pinned (OpenSpec.ofChange fnDropScriptLeavesExactlyTheBusyPoolsWrong)

end Rows
end Go.Proofs.Qxb6618922a
