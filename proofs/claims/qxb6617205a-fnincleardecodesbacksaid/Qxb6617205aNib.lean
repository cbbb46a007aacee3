import Derived.Test.Qxb6617205aSmall
import Derived.Test.Qxb6617205aPlainB
namespace Go.Proofs.Qxb6617205a
open Go.RowKit

set_option maxHeartbeats 400000 in
/-- inClearHexNibble at a hex digit. -/
theorem nib_any (c n : Int) (w : World) (h : (0 ≤ n ∧ n < 10 ∧ c = 48 + n) ∨ (10 ≤ n ∧ n < 16 ∧ c = 87 + n)) :
    Calls Try.prog 9 #[.int .u8 c] w fun e w' => e = .returned (.tuple #[.int .u8 n, .bool true]) ∧ w = w' := by
  rcases h with ⟨h0, h1, h2⟩ | ⟨h0, h1, h2⟩
  · have g1 : 48 ≤ c := by omega
    have g2 : c ≤ 57 := by omega
    have HN : Hid (c = 48 + n) := h2
    clear h2
    go_enter Try.func9, Try.ntmps9
    go_wp2
    go_ret2
    have e : c - 48 = n := by have := HN.out; omega
    exact ⟨by show Ending.returned (Value.tuple #[Value.int IntKind.u8 (c - 48), Value.bool true]) = _; rw [e], rfl⟩
  · have g1 : 97 ≤ c := by omega
    have g2 : c ≤ 102 := by omega
    have g3 : ¬ c ≤ 57 := by omega
    have HN : Hid (c = 87 + n) := h2
    clear h2
    go_enter Try.func9, Try.ntmps9
    go_wp2
    go_ret2
    have e : c - 97 + 10 = n := by have := HN.out; omega
    exact ⟨by show Ending.returned (Value.tuple #[Value.int IntKind.u8 (c - 97 + 10), Value.bool true]) = _; rw [e], rfl⟩
end Go.Proofs.Qxb6617205a
