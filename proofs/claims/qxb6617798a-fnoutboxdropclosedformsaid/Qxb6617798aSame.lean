/-
  Seat b6617798a: 'sameInts' (function 13), 'sameBytes' (function 17) at slices that read alike: their contracts.
-/
import Derived.Test.Qxb6617798aMem
import Derived.Deep.QuietTactic
import Derived.BigQuiet
namespace Go.Proofs.Qxb6617798a
open Go.RowKit

set_option maxHeartbeats 1000000 in
set_option maxRecDepth 100000 in
/-- sameInts at two slices that read alike. -/
theorem sameInts_yes (a a' : Option Addr) (len c c' : Nat) (zs : List Int) (w : World) (hl : len ≤ 1000000000) (hn : a.isNone = a'.isNone)
    (hat : 0 < len → ∃ b off, a = some ⟨b, off, none⟩ ∧ ∀ j, j < len → w.cell? ⟨b, off + j, none⟩ = some (.int .i64 (zs.getD j 0)))
    (hat' : 0 < len → ∃ b off, a' = some ⟨b, off, none⟩ ∧ ∀ j, j < len → w.cell? ⟨b, off + j, none⟩ = some (.int .i64 (zs.getD j 0))) :
    Calls Try.prog 13 #[.slice a len c, .slice a' len c'] w fun e w' => e = .returned (.bool true) ∧ ∃ q, w' = w.drewN q := by
  have hq := fun wx : World => Lib.run_eql_slice_nil (P := Try.prog) wx 23 3 a len c 0 0 Try.underlying23
  have hq' := fun wx : World => Lib.run_eql_slice_nil (P := Try.prog) wx 23 3 a' len c' 0 0 Try.underlying23
  rw [← hn] at hq'
  generalize a.isNone = na at hq hq'
  clear hn
  go_enter Try.func13, Try.ntmps13
  go_wp2
  go_loopw [5] (fun i wr => ∃ (k q : Nat), k ≤ len ∧ i = .int .i64 k ∧ wr = w.drewN q) (fun i _ => len - (intOf i).toNat)
  case atStart => exact ⟨0, 0, Nat.zero_le _, rfl, rfl⟩
  case round =>
    obtain ⟨k, q, hk, rfl, rfl⟩ := hrel
    by_cases hlt : k < len
    · obtain ⟨b, off, rfl, hcell⟩ := hat (by omega)
      obtain ⟨b', off', rfl, hcell'⟩ := hat' (by omega)
      have h1 := hcell k hlt
      have h2 := hcell' k hlt
      generalize zs.getD k 0 = z at h1 h2
      have hlt' : (k : Int) < (len : Int) := by omega
      clear hcell hcell'
      go_wp2
      go_quiet (fail)
      go_wp2
      go_roundw
      case rel => exact ⟨k + 1, _, by omega, by go_num, rfl⟩
      case measure => simp [intOf]; omega
    · go_wp2
      go_ret
      exact ⟨rfl, _, rfl⟩

set_option maxHeartbeats 1000000 in
set_option maxRecDepth 100000 in
/-- sameBytes at two slices that read alike. -/
theorem sameBytes_yes (a a' : Option Addr) (len c c' : Nat) (zs : List Int) (w : World) (hl : len ≤ 1000000000) (hn : a.isNone = a'.isNone)
    (hat : 0 < len → ∃ b off, a = some ⟨b, off, none⟩ ∧ ∀ j, j < len → w.cell? ⟨b, off + j, none⟩ = some (.int .u8 (zs.getD j 0)))
    (hat' : 0 < len → ∃ b off, a' = some ⟨b, off, none⟩ ∧ ∀ j, j < len → w.cell? ⟨b, off + j, none⟩ = some (.int .u8 (zs.getD j 0))) :
    Calls Try.prog 17 #[.slice a len c, .slice a' len c'] w fun e w' => e = .returned (.bool true) ∧ ∃ q, w' = w.drewN q := by
  have hq := fun wx : World => Lib.run_eql_slice_nil (P := Try.prog) wx 30 5 a len c 0 0 Try.underlying30
  have hq' := fun wx : World => Lib.run_eql_slice_nil (P := Try.prog) wx 30 5 a' len c' 0 0 Try.underlying30
  rw [← hn] at hq'
  generalize a.isNone = na at hq hq'
  clear hn
  go_enter Try.func17, Try.ntmps17
  go_wp2
  go_loopw [5] (fun i wr => ∃ (k q : Nat), k ≤ len ∧ i = .int .i64 k ∧ wr = w.drewN q) (fun i _ => len - (intOf i).toNat)
  case atStart => exact ⟨0, 0, Nat.zero_le _, rfl, rfl⟩
  case round =>
    obtain ⟨k, q, hk, rfl, rfl⟩ := hrel
    by_cases hlt : k < len
    · obtain ⟨b, off, rfl, hcell⟩ := hat (by omega)
      obtain ⟨b', off', rfl, hcell'⟩ := hat' (by omega)
      have h1 := hcell k hlt
      have h2 := hcell' k hlt
      generalize zs.getD k 0 = z at h1 h2
      have hlt' : (k : Int) < (len : Int) := by omega
      clear hcell hcell'
      go_wp2
      go_quiet (fail)
      go_wp2
      go_roundw
      case rel => exact ⟨k + 1, _, by omega, by go_num, rfl⟩
      case measure => simp [intOf]; omega
    · go_wp2
      go_ret
      exact ⟨rfl, _, rfl⟩

end Go.Proofs.Qxb6617798a
