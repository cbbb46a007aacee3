/-
  Seat b6616504a: the bounds that are laid ahead of the laws (functions 5, 10): they answer a bool.
-/
import Derived.Test.Qxb6616504aSets
namespace Go.Proofs.Qxb6616504a
open Go.RowKit

set_option maxHeartbeats 2000000 in
set_option maxRecDepth 100000 in
theorem zz5_any (a : Option Addr) (len cap : Nat) (ns : List ByteArray) (x y : ByteArray) (w : World) (hl : len ≤ maxLen) (hx : x.size ≤ maxLen) (hy : y.size ≤ maxLen) (hin : NRow w a len ns) :
    Calls Try.prog 5 #[.slice a len cap, .string x, .string y] w fun e w' => BoolPost w e w' := by
  unfold maxLen at *
  by_cases g1 : len ≤ 1048576
  · go_enter Try.func5, Try.ntmps5
    go_wp2
    go_loop [7, 8] (fun z i => ∃ (k : Nat) (m : Int), k ≤ len ∧ i = .int .i64 k ∧ z = .int .i64 m ∧ 0 ≤ m ∧ m ≤ 1048576) (fun _ i => len - (intOf i).toNat)
    case atStart => exact ⟨0, _, Nat.zero_le _, rfl, rfl, by omega, by omega⟩
    case round =>
      obtain ⟨k, m, hk, rfl, rfl, hm0, hm1⟩ := hrel
      by_cases hlt : k < len
      · obtain ⟨b, off, s, rfl, hs, hsz, c0⟩ := hin.get hlt
        unfold maxLen at hsz
        clear hs
        by_cases hb1 : s.size ≤ 1048576
        · by_cases hb2 : m + s.size ≤ 1048576
          · go_wp2
            go_round
            case rel => exact ⟨k + 1, m + s.size, by omega, by go_num, rfl, by omega, by omega⟩
            case measure => simp [intOf]; omega
          · go_wp2
            go_ret
            exact ⟨_, rfl, rfl⟩
        · go_wp2
          go_ret
          exact ⟨_, rfl, rfl⟩
      · go_wp2
        all_goals
          go_ret
          exact ⟨_, rfl, rfl⟩
  · go_enter Try.func5, Try.ntmps5
    go_wp2
    go_ret
    exact ⟨_, rfl, rfl⟩

set_option maxHeartbeats 2000000 in
set_option maxRecDepth 100000 in
theorem zz10_any (a : Option Addr) (len cap : Nat) (ns : List ByteArray) (x : ByteArray) (w : World) (hl : len ≤ maxLen) (hx : x.size ≤ maxLen) (hin : NRow w a len ns) :
    Calls Try.prog 10 #[.slice a len cap, .string x] w fun e w' => BoolPost w e w' := by
  unfold maxLen at *
  by_cases g1 : len ≤ 1048576
  · go_enter Try.func10, Try.ntmps10
    go_wp2
    go_loop [5, 6] (fun z i => ∃ (k : Nat) (m : Int), k ≤ len ∧ i = .int .i64 k ∧ z = .int .i64 m ∧ 0 ≤ m ∧ m ≤ 1048576) (fun _ i => len - (intOf i).toNat)
    case atStart => exact ⟨0, _, Nat.zero_le _, rfl, rfl, by omega, by omega⟩
    case round =>
      obtain ⟨k, m, hk, rfl, rfl, hm0, hm1⟩ := hrel
      by_cases hlt : k < len
      · obtain ⟨b, off, s, rfl, hs, hsz, c0⟩ := hin.get hlt
        unfold maxLen at hsz
        clear hs
        by_cases hb1 : s.size ≤ 1048576
        · by_cases hb2 : m + s.size ≤ 1048576
          · go_wp2
            go_round
            case rel => exact ⟨k + 1, m + s.size, by omega, by go_num, rfl, by omega, by omega⟩
            case measure => simp [intOf]; omega
          · go_wp2
            go_ret
            exact ⟨_, rfl, rfl⟩
        · go_wp2
          go_ret
          exact ⟨_, rfl, rfl⟩
      · go_wp2
        all_goals
          go_ret
          exact ⟨_, rfl, rfl⟩
  · go_enter Try.func10, Try.ntmps10
    go_wp2
    go_ret
    exact ⟨_, rfl, rfl⟩

end Go.Proofs.Qxb6616504a
