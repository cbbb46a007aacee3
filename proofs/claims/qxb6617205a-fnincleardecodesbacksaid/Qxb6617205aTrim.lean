import Derived.Test.Qxb6617205aRows
import Derived.Test.Qxb6617205aPlain
import Derived.WalkKit
import Derived.ProofKit
import Derived.Below
namespace Go.Proofs.Qxb6617205a
open Go.RowKit

theorem last_extract (s : ByteArray) (h : 1 ≤ s.size) : ((s.extract (s.size - 1) s.size).toList == [102]) = decide (s.toList.getLast? = some 102) := by
  have e : (s.extract (s.size - 1) s.size).toList = s.toList.drop (s.toList.length - 1) := by
    rw [ByteArray.toList_eq, ByteArray.toList_eq]
    have hs : s.size = s.data.toList.length := by rw [Array.length_toList]; rfl
    rw [ByteArray.data_extract, Array.toList_extract, ← hs, List.extract_eq_take_drop]
    rw [List.take_of_length_le]
    rw [List.length_drop, ← hs]
    exact Nat.le_refl _
  have hp : 1 ≤ s.toList.length := by rw [ByteArray.toList_eq, Array.length_toList]; exact h
  rw [e]
  generalize s.toList = l at hp
  rcases List.eq_nil_or_concat l with rfl | ⟨ys, z, rfl⟩
  · simp at hp
  · simp [Bool.beq_eq_decide_eq]

theorem extract_dropLast (s : ByteArray) : (s.extract 0 (s.size - 1)).toList = s.toList.dropLast := by
  rw [ByteArray.toList_eq, ByteArray.toList_eq]
  have hs : s.size = s.data.toList.length := by rw [Array.length_toList]; rfl
  rw [ByteArray.data_extract, Array.toList_extract, hs]
  rw [List.extract_eq_take_drop, List.dropLast_eq_take]; simp

theorem size_toList (s : ByteArray) : s.size = s.toList.length := by
  rw [ByteArray.toList_eq, Array.length_toList]; rfl

set_option maxHeartbeats 400000 in
/-- strings.TrimSuffix at the suffix "f". -/
theorem trim_any (s : ByteArray) (w : World) (hs : s.size ≤ 1000000) :
    Calls Try.prog 11 #[.string s, .string ⟨#[102]⟩] w fun e w' => ∃ r : ByteArray, e = .returned (.string r) ∧ r.toList = Plain.trimF s.toList ∧ w' = w := by
  by_cases h : 1 ≤ s.size
  · have hx := last_extract s h
    cases h2 : ((s.extract (s.size - 1) s.size).toList == [102])
    · have hf : Hid (Plain.trimF s.toList = s.toList) := by
        show _ = _
        rw [h2] at hx
        unfold Plain.trimF
        rw [if_neg (by simpa using hx.symm)]
      clear hx
      go_enter Try.func11, Try.ntmps11
      go_wp2
      go_ret
      exact ⟨_, rfl, hf.out.symm, rfl⟩
    · have hf : Hid (Plain.trimF s.toList = s.toList.dropLast) := by
        show _ = _
        rw [h2] at hx
        unfold Plain.trimF
        rw [if_pos (by simpa using hx.symm)]
      clear hx
      go_enter Try.func11, Try.ntmps11
      go_wp2
      go_ret
      exact ⟨_, rfl, by rw [hf.out, extract_dropLast], rfl⟩
  · have hf : Hid (Plain.trimF s.toList = s.toList) := by
      have : s.toList = [] := by
        apply List.eq_nil_of_length_eq_zero; have := size_toList s; omega
      show _ = _
      rw [this]; rfl
    go_enter Try.func11, Try.ntmps11
    go_wp2
    go_ret
    exact ⟨_, rfl, hf.out.symm, rfl⟩
end Go.Proofs.Qxb6617205a
