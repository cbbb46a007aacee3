/-
  Seat b6617798a: the plain law 'what drop leaves, in a closed form'.
-/
import Derived.Test.Qxb6617798aPlain
namespace Go.Proofs.Qxb6617798a.Plain
open Go.RowKit (wrap64)

/-- An int as Go has it. -/
def In (n : Int) : Prop := -9223372036854775808 ≤ n ∧ n ≤ 9223372036854775807

theorem in_wrap (n : Int) : In (wrap64 n) := by unfold In wrap64; omega
theorem wrap_in {n : Int} (h : In n) : wrap64 n = n := by unfold In at h; unfold wrap64; omega
theorem wrap_sub (a b : Int) : wrap64 (wrap64 a - b) = wrap64 (a - b) := by unfold wrap64; omega

/-- How many leading batches fit whole in d. -/
def fit : List Int → Int → Nat
  | [], _ => 0
  | c :: rest, d => if c ≤ d then fit rest (d - c) + 1 else 0

theorem fit_le : ∀ (zs : List Int) (d : Int), fit zs d ≤ zs.length
  | [], _ => Nat.le_refl _
  | c :: rest, d => by
    rw [fit]
    split
    · have := fit_le rest (d - c); simp; omega
    · exact Nat.zero_le _

theorem sum_nonneg : ∀ (l : List Int), (∀ z ∈ l, 0 ≤ z) → 0 ≤ l.sum
  | [], _ => by simp
  | y :: l, hl => by
    have := sum_nonneg l (fun z hz' => hl z (by simp [hz']))
    have := hl y (by simp)
    rw [List.sum_cons]
    omega

theorem fit_sum : ∀ (zs : List Int) (d : Int), 0 ≤ d → (zs.take (fit zs d)).sum ≤ d
  | [], d, h => by simpa using h
  | c :: rest, d, h => by
    rw [fit]
    split
    · have := fit_sum rest (d - c) (by omega)
      rw [List.take_succ_cons, List.sum_cons]; omega
    · simpa using h

theorem sum_take_le : ∀ (zs : List Int) (i j : Nat), (∀ z ∈ zs, 0 ≤ z) → i ≤ j → (zs.take i).sum ≤ (zs.take j).sum
  | [], _, _, _, _ => by simp
  | c :: rest, 0, j, hz, _ => by
    rw [List.take_zero, List.sum_nil]
    exact sum_nonneg _ (fun z hz' => hz z (List.mem_of_mem_take hz'))
  | c :: rest, i + 1, 0, _, h => absurd h (by omega)
  | c :: rest, i + 1, j + 1, hz, h => by
    rw [List.take_succ_cons, List.take_succ_cons, List.sum_cons, List.sum_cons]
    have := sum_take_le rest i j (fun z hz' => hz z (by simp [hz'])) (by omega)
    omega

/-- How many handed batches go. -/
def gone (h : Int) (k : Nat) : Nat := if h < k then h.toNat else k

theorem run_closed : ∀ (zs : List Int) (bt h hm d : Int), In bt → In h → In hm →
    run zs bt h hm d = ⟨zs.drop (fit zs d), wrap64 (bt - (zs.take (fit zs d)).sum), if 0 < h then h - gone h (fit zs d) else h, if 0 < h then wrap64 (hm - (zs.take (gone h (fit zs d))).sum) else hm, d - (zs.take (fit zs d)).sum⟩
  | [], bt, h, hm, d, hb, hh, hmm => by
    have e : gone h 0 = if h < 0 then h.toNat else 0 := rfl
    have e0 : 0 < h → gone h 0 = 0 := fun h0 => by rw [e, if_neg (by omega)]
    simp only [run, fit, List.take_nil, List.drop_nil, List.sum_nil, Int.sub_zero, wrap_in hb, wrap_in hmm]
    by_cases h0 : 0 < h
    · rw [if_pos h0, if_pos h0, e0 h0]; simp
    · rw [if_neg h0, if_neg h0]
  | c :: rest, bt, h, hm, d, hb, hh, hmm => by
    rw [run]
    by_cases hc : c ≤ d
    · have ef : fit (c :: rest) d = fit rest (d - c) + 1 := by rw [fit, if_pos hc]
      rw [if_pos hc, ef]
      by_cases h0 : 0 < h
      · have e1 : wrap64 (h - 1) = h - 1 := wrap_in (by unfold In at hh ⊢; omega)
        rw [if_pos h0, if_pos h0, e1, run_closed rest _ _ _ _ (in_wrap _) (by unfold In at hh ⊢; omega) (in_wrap _)]
        simp only [List.take_succ_cons, List.sum_cons, List.drop_succ_cons, wrap_sub, if_pos h0]
        have eb : bt - c - (rest.take (fit rest (d - c))).sum = bt - (c + (rest.take (fit rest (d - c))).sum) := by omega
        have ed : d - c - (rest.take (fit rest (d - c))).sum = d - (c + (rest.take (fit rest (d - c))).sum) := by omega
        rw [eb, ed]
        by_cases h1 : 0 < h - 1
        · have eg : gone h (fit rest (d - c) + 1) = gone (h - 1) (fit rest (d - c)) + 1 := by
            unfold gone
            by_cases hq : h - 1 < (fit rest (d - c) : Nat)
            · rw [if_pos hq, if_pos (by omega)]; omega
            · rw [if_neg hq, if_neg (by omega)]
          have em : hm - c - (rest.take (gone (h - 1) (fit rest (d - c)))).sum = hm - (c + (rest.take (gone (h - 1) (fit rest (d - c)))).sum) := by omega
          rw [if_pos h1, if_pos h1, eg, List.take_succ_cons, List.sum_cons, em]
          congr 1
          omega
        · have e2 : h = 1 := by omega
          subst e2
          have eg : gone 1 (fit rest (d - c) + 1) = 1 := by
            unfold gone
            by_cases hq : (1 : Int) < ((fit rest (d - c) + 1 : Nat) : Int)
            · rw [if_pos hq]; rfl
            · rw [if_neg hq]; omega
          rw [if_neg h1, if_neg h1, eg]
          simp [List.take_succ_cons]
      · rw [if_neg h0, if_neg h0, run_closed rest _ _ _ _ (in_wrap _) hh hmm]
        simp only [List.take_succ_cons, List.sum_cons, List.drop_succ_cons, wrap_sub, if_neg h0]
        have eb : bt - c - (rest.take (fit rest (d - c))).sum = bt - (c + (rest.take (fit rest (d - c))).sum) := by omega
        have ed : d - c - (rest.take (fit rest (d - c))).sum = d - (c + (rest.take (fit rest (d - c))).sum) := by omega
        rw [eb, ed]
    · have ef : fit (c :: rest) d = 0 := by rw [fit, if_neg hc]
      rw [if_neg hc, ef]
      simp only [List.take_zero, List.drop_zero, List.sum_nil, Int.sub_zero, wrap_in hb]
      by_cases h0 : 0 < h
      · have e0 : gone h 0 = 0 := by unfold gone; rw [if_neg (by omega)]
        rw [if_pos h0, if_pos h0, e0]
        simp [wrap_in hmm]
      · rw [if_neg h0, if_neg h0]

/-- Where a batch is cut, or messages in none are dropped: all batching is forgotten. -/
theorem drop_over {zs : List Int} {bt h hm wt d : Int} (hb : In bt) (hh : In h) (hmm : In hm) (hd : (zs.take (fit zs d)).sum < d) : drop zs bt h hm wt d = ⟨[], 0, 0, 0, 0⟩ :=
  drop_pos (run_closed zs bt h hm d hb hh hmm).symm (by show 0 < d - _; omega)

/-- Else: what is left, in a closed form. -/
theorem drop_even {zs : List Int} {bt h hm wt d : Int} (hb : In bt) (hh : In h) (hmm : In hm) (hd : ¬ (zs.take (fit zs d)).sum < d) :
    drop zs bt h hm wt d = ⟨zs.drop (fit zs d), wrap64 (bt - (zs.take (fit zs d)).sum), if 0 < h then h - gone h (fit zs d) else h, if 0 < h then wrap64 (hm - (zs.take (gone h (fit zs d))).sum) else hm, wt⟩ :=
  drop_neg (run_closed zs bt h hm d hb hh hmm).symm (by show ¬ 0 < d - _; omega)

end Go.Proofs.Qxb6617798a.Plain
