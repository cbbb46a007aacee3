/-
  Seat b6617798a: the bounds that the laws lay: 'zzBytes_..' (functions 5, 14), 'outboxBytesOver' (function 6): their contracts.
-/
import Derived.Test.Qxb6617798aPays
namespace Go.Proofs.Qxb6617798a
open Go.RowKit

/-- It answers a bool and turns nothing; where it says yes the payloads are small. -/
def ZzPost (w : World) (ps : List (Option (List Int))) (e : Ending) (w' : World) : Prop := ∃ b : Bool, e = .returned (.bool b) ∧ w = w' ∧ (b = true → ∀ bs, some bs ∈ ps → bs.length ≤ 1048576)
/-- It answers a bool and turns nothing; where it says no the two slices are short. -/
def OverPost (w : World) (len lb : Nat) (e : Ending) (w' : World) : Prop := ∃ b : Bool, e = .returned (.bool b) ∧ w = w' ∧ (b = false → len ≤ 131072 ∧ lb ≤ 131072)

theorem PayAt.form {w : World} {v : Value} {o : Option (List Int)} (h : PayAt w v o) : ∃ y l c, v = .slice y l c ∧ l = (o.getD []).length := by
  cases o with
  | none => exact ⟨none, 0, 0, h, rfl⟩
  | some bs => obtain ⟨x, c, e, _⟩ := h; exact ⟨_, _, _, e, rfl⟩

set_option maxHeartbeats 2000000 in
set_option maxRecDepth 100000 in
/-- The bound that is laid ahead of the law: where it says yes, the lengths are small. -/
theorem zz5_any (a : Option Addr) (len cap : Nat) (ps : List (Option (List Int))) (ab : Option Addr) (lb cb : Nat) (x0 x1 x2 x3 x4 : Int) (w : World) (hl : len ≤ maxLen) (hlb : lb ≤ maxLen) (hin : PIn w a len ps) :
    Calls Try.prog 5 #[.slice a len cap, .slice ab lb cb, .int .i64 x0, .int .i64 x1, .int .i64 x2, .int .i64 x3, .int .i64 x4] w fun e w' => ZzPost w ps e w' := by
  unfold maxLen at hl hlb
  by_cases g1 : len ≤ 1048576
  · go_enter Try.func5, Try.ntmps5
    go_wp2
    go_loop [15, 16] (fun z i => ∃ (k : Nat) (m : Int), k ≤ len ∧ i = .int .i64 k ∧ z = .int .i64 m ∧ 0 ≤ m ∧ m ≤ 1048576 ∧ ∀ j, j < k → ((ps.getD j none).getD []).length ≤ 1048576) (fun _ i => len - (intOf i).toNat)
    case atStart => exact ⟨0, _, Nat.zero_le _, rfl, rfl, by omega, by omega, fun j hj => by omega⟩
    case round =>
      obtain ⟨k, m, hk, rfl, rfl, hm0, hm1, hall⟩ := hrel
      by_cases hlt : k < len
      · obtain ⟨b, off, rfl, _, hcell⟩ := hin.at_ (by omega)
        obtain ⟨v, h1, h2⟩ := hcell k hlt
        obtain ⟨y, l, c, rfl, hll⟩ := h2.form
        have HL := hide hll
        have HA := hide hall
        clear hcell h2 hll hall
        by_cases hb1 : l ≤ 1048576
        · by_cases hb2 : m + l ≤ 1048576
          · go_wp2
            go_round
            case rel => exact ⟨k + 1, m + l, by omega, by go_num, rfl, by omega, by omega, fun j hj => by
              by_cases hjk : j = k
              · subst hjk; have := HL.out; omega
              · exact HA.out j (by omega)⟩
            case measure => simp [intOf]; omega
          · go_wp2
            go_ret
            exact ⟨_, rfl, rfl, fun h => by cases h⟩
        · go_wp2
          go_ret
          exact ⟨_, rfl, rfl, fun h => by cases h⟩
      · have HF : Hid (∀ bs, some bs ∈ ps → bs.length ≤ 1048576) := fun bs hb => by
          obtain ⟨j, hj, e⟩ := List.getElem_of_mem hb
          have := hall j (by have := hin.len_eq; omega)
          rw [show ps.getD j none = some bs from by simp [List.getD, hj, e]] at this
          simpa using this
        clear hall
        go_wp2
        all_goals
          go_ret
          exact ⟨_, rfl, rfl, fun _ => HF.out⟩
  · go_enter Try.func5, Try.ntmps5
    go_wp2
    go_ret
    exact ⟨_, rfl, rfl, fun h => by cases h⟩

set_option maxHeartbeats 2000000 in
set_option maxRecDepth 100000 in
/-- The bound that is laid ahead of the law: where it says yes, the lengths are small. -/
theorem zz14_any (a : Option Addr) (len cap : Nat) (ps : List (Option (List Int))) (ab : Option Addr) (lb cb : Nat) (x0 x1 x2 x3 x4 x5 : Int) (w : World) (hl : len ≤ maxLen) (hlb : lb ≤ maxLen) (hin : PIn w a len ps) :
    Calls Try.prog 14 #[.slice a len cap, .slice ab lb cb, .int .i64 x0, .int .i64 x1, .int .i64 x2, .int .i64 x3, .int .i64 x4, .int .i64 x5] w fun e w' => ZzPost w ps e w' := by
  unfold maxLen at hl hlb
  by_cases g1 : len ≤ 1048576
  · go_enter Try.func14, Try.ntmps14
    go_wp2
    go_loop [17, 18] (fun z i => ∃ (k : Nat) (m : Int), k ≤ len ∧ i = .int .i64 k ∧ z = .int .i64 m ∧ 0 ≤ m ∧ m ≤ 1048576 ∧ ∀ j, j < k → ((ps.getD j none).getD []).length ≤ 1048576) (fun _ i => len - (intOf i).toNat)
    case atStart => exact ⟨0, _, Nat.zero_le _, rfl, rfl, by omega, by omega, fun j hj => by omega⟩
    case round =>
      obtain ⟨k, m, hk, rfl, rfl, hm0, hm1, hall⟩ := hrel
      by_cases hlt : k < len
      · obtain ⟨b, off, rfl, _, hcell⟩ := hin.at_ (by omega)
        obtain ⟨v, h1, h2⟩ := hcell k hlt
        obtain ⟨y, l, c, rfl, hll⟩ := h2.form
        have HL := hide hll
        have HA := hide hall
        clear hcell h2 hll hall
        by_cases hb1 : l ≤ 1048576
        · by_cases hb2 : m + l ≤ 1048576
          · go_wp2
            go_round
            case rel => exact ⟨k + 1, m + l, by omega, by go_num, rfl, by omega, by omega, fun j hj => by
              by_cases hjk : j = k
              · subst hjk; have := HL.out; omega
              · exact HA.out j (by omega)⟩
            case measure => simp [intOf]; omega
          · go_wp2
            go_ret
            exact ⟨_, rfl, rfl, fun h => by cases h⟩
        · go_wp2
          go_ret
          exact ⟨_, rfl, rfl, fun h => by cases h⟩
      · have HF : Hid (∀ bs, some bs ∈ ps → bs.length ≤ 1048576) := fun bs hb => by
          obtain ⟨j, hj, e⟩ := List.getElem_of_mem hb
          have := hall j (by have := hin.len_eq; omega)
          rw [show ps.getD j none = some bs from by simp [List.getD, hj, e]] at this
          simpa using this
        clear hall
        go_wp2
        all_goals
          go_ret
          exact ⟨_, rfl, rfl, fun _ => HF.out⟩
  · go_enter Try.func14, Try.ntmps14
    go_wp2
    go_ret
    exact ⟨_, rfl, rfl, fun h => by cases h⟩

set_option maxHeartbeats 1000000 in
set_option maxRecDepth 100000 in
/-- outboxBytesOver: where it says no, the lengths are small. -/
theorem over_any (a : Option Addr) (len cap : Nat) (ps : List (Option (List Int))) (ab : Option Addr) (lb cb : Nat) (w : World) (hl : len ≤ maxLen) (hlb : lb ≤ maxLen) (hin : PIn w a len ps) (hsm : ∀ bs, some bs ∈ ps → bs.length ≤ 1048576) :
    Calls Try.prog 6 #[.slice a len cap, .slice ab lb cb] w fun e w' => OverPost w len lb e w' := by
  unfold maxLen at hl hlb
  by_cases g1 : len ≤ 131072
  · by_cases g2 : lb ≤ 131072
    · by_cases g3 : 8 * len + 8 * lb ≤ 1048576
      · go_enter Try.func6, Try.ntmps6
        go_wp2
        go_loop [5, 6] (fun t i => ∃ (k : Nat) (m : Int), k ≤ len ∧ i = .int .i64 k ∧ t = .int .i64 m ∧ 0 ≤ m ∧ m ≤ 1048576) (fun _ i => len - (intOf i).toNat)
        case atStart => exact ⟨0, _, Nat.zero_le _, rfl, rfl, by omega, by omega⟩
        case round =>
          obtain ⟨k, m, hk, rfl, rfl, hm0, hm1⟩ := hrel
          by_cases hlt : k < len
          · obtain ⟨b, off, rfl, _, hcell⟩ := hin.at_ (by omega)
            obtain ⟨v, h1, h2⟩ := hcell k hlt
            obtain ⟨y, l, c, rfl, hll⟩ := h2.form
            have hlm : l ≤ 1048576 := by
              rw [hll]
              cases hpo : ps.getD k none with
              | none => simp
              | some bs =>
                have hkp : k < ps.length := by have := hin.len_eq; omega
                have e : ps.getD k none = ps[k] := by simp [List.getD, hkp]
                exact hsm bs (by rw [← hpo, e]; exact List.getElem_mem hkp)
            clear hcell h2 hll
            by_cases hover : m + l ≤ 1048576
            · go_wp2
              go_round
              case rel => exact ⟨k + 1, m + l, by omega, by go_num, rfl, by omega, by omega⟩
              case measure => simp [intOf]; omega
            · go_wp2
              go_ret
              exact ⟨_, rfl, rfl, fun h => by cases h⟩
          · go_wp2
            go_ret
            exact ⟨_, rfl, rfl, fun _ => ⟨g1, g2⟩⟩
      · go_enter Try.func6, Try.ntmps6
        go_wp2
        go_ret
        exact ⟨_, rfl, rfl, fun h => by cases h⟩
    · go_enter Try.func6, Try.ntmps6
      go_wp2
      go_ret
      exact ⟨_, rfl, rfl, fun h => by cases h⟩
  · go_enter Try.func6, Try.ntmps6
    go_wp2
    go_ret
    exact ⟨_, rfl, rfl, fun h => by cases h⟩

end Go.Proofs.Qxb6617798a
