/-
  Seat b6617205a: the plain side of 'the digits packed back give the octets': lists of bytes, no Go in sight.
-/
import Derived.Test.Qxb6617205aPlain
namespace Go.Proofs.Qxb6617205a.Plain

theorem digs_lo : ∀ (zs : List Int) (i : Nat) (h : i < zs.length), (digs zs)[2 * i]? = some (hexd (zs[i].toNat % 16))
  | z :: zs, 0, _ => rfl
  | z :: zs, i + 1, h => by
    have e : digs (z :: zs) = two z ++ digs zs := rfl
    rw [e, show 2 * (i + 1) = (two z).length + 2 * i from by simp [two]; omega, List.getElem?_append_right (by omega), Nat.add_sub_cancel_left]
    exact digs_lo zs i (by simpa using h)

theorem digs_hi : ∀ (zs : List Int) (i : Nat) (h : i < zs.length), (digs zs)[2 * i + 1]? = some (hexd (zs[i].toNat / 16))
  | z :: zs, 0, _ => rfl
  | z :: zs, i + 1, h => by
    have e : digs (z :: zs) = two z ++ digs zs := rfl
    rw [e, show 2 * (i + 1) + 1 = (two z).length + (2 * i + 1) from by simp [two]; omega, List.getElem?_append_right (by omega), Nat.add_sub_cancel_left]
    exact digs_hi zs i (by simpa using h)

theorem trimF_get (l : List UInt8) (j : Nat) (h : j < (trimF l).length) : (trimF l)[j]? = l[j]? := by
  unfold trimF at h ⊢
  split at h
  · rename_i hl
    rw [if_pos hl]
    rw [List.getElem?_dropLast, if_pos (by simpa using h)]
  · rename_i hl
    rw [if_neg hl]

/-- The even digits of the answer. -/
theorem clear_lo (zs : List Int) (hz : ∀ z ∈ zs, 0 ≤ z ∧ z ≤ 255) (i : Nat) (h : i < zs.length) : (clear 0 zs)[2 * i]? = some (hexd (zs[i].toNat % 16)) := by
  have hl := clear_length zs hz
  have : 2 * i < (clear 0 zs).length := by rw [hl]; split <;> omega
  simp only [clear, if_true] at this ⊢
  rw [trimF_get _ _ this, digs_lo zs i h]

/-- The odd digits of the answer. -/
theorem clear_hi (zs : List Int) (i : Nat) (h : i < zs.length) (hlt : 2 * i + 1 < (clear 0 zs).length) : (clear 0 zs)[2 * i + 1]? = some (hexd (zs[i].toNat / 16)) := by
  simp only [clear, if_true] at hlt ⊢
  rw [trimF_get _ _ hlt, digs_hi zs i h]

/-- Where the odd digit is not there its nibble was F. -/
theorem clear_end (zs : List Int) (hz : ∀ z ∈ zs, 0 ≤ z ∧ z ≤ 255) (i : Nat) (h : i < zs.length) (hge : ¬ 2 * i + 1 < (clear 0 zs).length) : zs[i].toNat / 16 = 15 := by
  have hl := clear_length zs hz
  rw [hl] at hge
  cases ho : odd zs
  · rw [ho] at hge; simp at hge; omega
  · rw [ho] at hge
    simp at hge
    unfold odd at ho
    have e : zs.getLast? = some zs[i] := by
      rw [List.getLast?_eq_getElem?]
      have e1 : zs.length - 1 = i := by omega
      rw [show zs[zs.length - 1]? = zs[i]? from by rw [e1]]
      exact List.getElem?_eq_getElem _
    rw [e] at ho
    simpa using ho

theorem hexd_cases : ∀ n : Nat, n < 16 → (n < 10 ∧ (hexd n).toNat = 48 + n) ∨ (10 ≤ n ∧ n < 16 ∧ (hexd n).toNat = 87 + n) := by decide

end Go.Proofs.Qxb6617205a.Plain
