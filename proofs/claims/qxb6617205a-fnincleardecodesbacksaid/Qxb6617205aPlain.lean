/-
  Seat b6617205a: the plain side: lists of bytes, no Go in sight.
-/
namespace Go.Proofs.Qxb6617205a.Plain

/-- One trailing 'f' cut off. -/
def trimF (l : List UInt8) : List UInt8 := if l.getLast? = some 102 then l.dropLast else l

/-- A nibble's lowercase hex digit. -/
def hexd (n : Nat) : UInt8 := if n < 10 then UInt8.ofNat (48 + n) else UInt8.ofNat (87 + n)

/-- The two digits of an octet, the low nibble first. -/
def two (z : Int) : List UInt8 := [hexd (z.toNat % 16), hexd (z.toNat / 16)]

def digs (zs : List Int) : List UInt8 := zs.flatMap two

def octs (zs : List Int) : List UInt8 := zs.map fun z => UInt8.ofNat z.toNat

/-- What InClear answers. -/
def clear (t : Int) (zs : List Int) : List UInt8 := if t = 0 then trimF (digs zs) else octs zs

theorem digs_length (zs : List Int) : (digs zs).length = 2 * zs.length := by
  induction zs with
  | nil => rfl
  | cons z zs ih => simp [digs, two] at ih ⊢; omega

theorem trimF_le (l : List UInt8) : (trimF l).length ≤ l.length := by
  unfold trimF; split <;> simp

theorem digs_append (a b : List Int) : digs (a ++ b) = digs a ++ digs b := by simp [digs]

/-- The last digit is 'f' just if the last octet's high nibble is F. -/
def odd (zs : List Int) : Bool := match zs.getLast? with
  | some z => z.toNat / 16 == 15
  | none => false

theorem odd_pos {zs : List Int} (h : odd zs = true) : 0 < zs.length := by
  cases zs with
  | nil => simp [odd] at h
  | cons z zs => simp

theorem hexd_f : ∀ n : Nat, n < 16 → (hexd n = 102 ↔ n = 15) := by decide

theorem last_digs (zs : List Int) (z : Int) : (digs (zs ++ [z])).getLast? = some (hexd (z.toNat / 16)) := by
  rw [digs_append]; simp [digs, two]

theorem last_f (zs : List Int) (hz : ∀ z ∈ zs, 0 ≤ z ∧ z ≤ 255) : (digs zs).getLast? = some 102 ↔ odd zs = true := by
  rcases List.eq_nil_or_concat zs with rfl | ⟨ys, z, rfl⟩
  · simp [digs, odd]
  · rw [List.concat_eq_append] at hz ⊢
    rw [last_digs]
    have := hz z (by simp)
    simp only [odd, List.getLast?_append, List.getLast?_singleton, Option.some_or, beq_iff_eq, Option.some.injEq]
    exact hexd_f _ (by omega)

theorem clear_length (zs : List Int) (hz : ∀ z ∈ zs, 0 ≤ z ∧ z ≤ 255) : (clear 0 zs).length = if odd zs then 2 * zs.length - 1 else 2 * zs.length := by
  have h := last_f zs hz
  have hl := digs_length zs
  simp only [clear, if_true, trimF]
  cases ho : odd zs <;> simp [ho] at h ⊢
  · rw [if_neg h, hl]
  · rw [if_pos h]; simp [hl]

theorem trimF_append (a b : List UInt8) (hb : b ≠ []) : trimF (a ++ b) = a ++ trimF b := by
  unfold trimF
  have e : (a ++ b).getLast? = b.getLast? := by
    rw [List.getLast?_append]
    cases h : b.getLast? with
    | none => exact absurd (List.getLast?_eq_none_iff.1 h) hb
    | some x => rfl
  rw [e, List.dropLast_append_of_ne_nil hb]
  split <;> rfl

theorem dropLast_f (l : List UInt8) (h : l.getLast? = some 102) : l.dropLast ++ [102] = l := by
  obtain ⟨ys, rfl⟩ := List.getLast?_eq_some_iff.1 h
  simp

/-- THE CUT, for the IMSI type: the left part's answer with its filler put back, then the right part's. -/
theorem cut_back (a b : List Int) (hb : b ≠ []) : clear 0 (a ++ b) = (if (clear 0 a).length % 2 = 1 then clear 0 a ++ [102] else clear 0 a) ++ clear 0 b := by
  simp only [clear, if_true]
  have hb' : digs b ≠ [] := by
    cases b with
    | nil => exact absurd rfl hb
    | cons z zs => simp [digs, two]
  rw [digs_append, trimF_append _ _ hb']
  congr 1
  have hl := digs_length a
  by_cases h : (digs a).getLast? = some 102
  · have e : trimF (digs a) = (digs a).dropLast := by unfold trimF; rw [if_pos h]
    have hne : digs a ≠ [] := by intro h0; rw [h0] at h; cases h
    have : 0 < (digs a).length := List.length_pos_iff.2 hne
    rw [e, if_pos (by simp; omega), dropLast_f _ h]
  · have e : trimF (digs a) = digs a := by unfold trimF; rw [if_neg h]
    rw [e, if_neg (by omega)]

theorem octs_append (a b : List Int) : octs (a ++ b) = octs a ++ octs b := by simp [octs]

end Go.Proofs.Qxb6617205a.Plain
