/-
  Seat b6617798a: the contracts in the form in which the laws use them: nil and not nil in one.
-/
import Derived.Test.Qxb6617798aZDrop
import Derived.Test.Qxb6617798aPays
namespace Go.Proofs.Qxb6617798a
open Go.RowKit

/-- A clone of a slice of byte slices. -/
def CP (w : World) (a : Option Addr) (len : Nat) (ps : List (Option (List Int))) (e : Ending) (w' : World) : Prop :=
  ∃ a' c', e = .returned (.slice a' len c') ∧ len ≤ c' ∧ c' ≤ 1000000 ∧ a'.isNone = a.isNone ∧ Below w.heap.size w w' ∧ (0 < len → a' = some ⟨w.heap.size, 0, none⟩ ∧ Cl w' w.heap.size 0 ps)

theorem clonePays_any (a : Option Addr) (len cap : Nat) (ps : List (Option (List Int))) (w : World) (hl : len ≤ 1000000) (hin : PIn w a len ps) (hnil : a = none → len = 0) (hsm : ∀ bs, some bs ∈ ps → bs.length ≤ 100000000) :
    Calls Try.prog 7 #[.slice a len cap] w fun e w' => CP w a len ps e w' := by
  cases a with
  | none =>
    obtain rfl := hnil rfl
    refine (clonePays_none 0 cap w).mono ?_
    rintro e w' ⟨rfl, rfl⟩
    exact ⟨none, 0, rfl, Nat.le_refl _, by omega, rfl, Below.refl _ _, fun h => by omega⟩
  | some x =>
    refine (clonePays_some x len cap ps w hl hin hsm).mono ?_
    rintro e w' ⟨rfl, hcl, hb⟩
    exact ⟨_, _, rfl, Nat.le_refl _, hl, rfl, hb, fun _ => ⟨rfl, hcl⟩⟩

/-- A clone of a slice of ints. -/
def CI (w : World) (len : Nat) (zs : List Int) (e : Ending) (w' : World) : Prop :=
  ∃ a' c', e = .returned (.slice a' len c') ∧ len ≤ c' ∧ c' ≤ 100000000 ∧ Below w.heap.size w w' ∧ (0 < len → w.heap.size < w'.heap.size) ∧ IRow w' w.heap.size a' len zs

theorem cloneInts_any (gb : Nat) (a : Option Addr) (len cap : Nat) (zs : List Int) (w : World) (hl : len ≤ 100000000) (hin : IRow w gb a len zs) (hnil : a = none → len = 0) :
    Calls Try.prog 8 #[.slice a len cap] w fun e w' => CI w len zs e w' := by
  cases a with
  | none =>
    obtain rfl := hnil rfl
    refine (cloneInts_none 0 cap w).mono ?_
    rintro e w' ⟨rfl, rfl⟩
    exact ⟨none, 0, rfl, Nat.le_refl _, by omega, Below.refl _ _, fun h => by omega, ⟨hin.len_eq, fun h => by omega⟩⟩
  | some x =>
    refine (cloneInts_some x len cap zs w hl hin.len_eq (fun h0 => ?_)).mono ?_
    · obtain ⟨off, e, hc⟩ := hin.at_ h0
      exact ⟨gb, off, Option.some.inj e, World.block_lt_of_cell? _ _ (hc 0 h0), hc⟩
    · rintro e w' ⟨rfl, hg, hb⟩
      refine ⟨_, _, rfl, Nat.le_refl _, hl, hb, fun _ => lt_of_heap hg, ⟨hin.len_eq, fun _ => ⟨0, rfl, fun j hj => ?_⟩⟩⟩
      rw [Nat.zero_add, cell_of_row _ _ _ _ _ _ hg]
      have := hin.len_eq
      simp [List.getD, show j < zs.length by omega]

/-- The row that a drop may write. -/
def rowOf (n g : Nat) : Option Nat := if 0 < n then some g else none

/-- ZZOutboxDrop, as the laws use it. -/
def ZP (g o gb n : Nat) (ps : List (Option (List Int))) (zs : List Int) (bt h hm wt : Int) (done : Nat) (w : World) (e : Ending) (w' : World) : Prop :=
  ∃ a' c' ab' lb' cb', e = .returned (.tuple #[.slice a' (n - done) c', .slice ab' lb' cb', .int .i64 (Plain.drop zs bt h hm wt done).bt, .int .i64 (Plain.drop zs bt h hm wt done).h, .int .i64 (Plain.drop zs bt h hm wt done).hm, .int .i64 (Plain.drop zs bt h hm wt done).wt]) ∧
    n - done ≤ c' ∧ c' ≤ 1000000000 ∧ (n - done = 0 → a' = none) ∧ (0 < n - done → a' = some ⟨g, o + done, none⟩ ∧ Cl w' g (o + done) (ps.drop done)) ∧
    (0 < n → ∀ j, o ≤ j → j < o + done → w'.cell? ⟨g, j, none⟩ = some (.slice none 0 0)) ∧ (0 < n → ∀ j, j < o → w'.cell? ⟨g, j, none⟩ = w.cell? ⟨g, j, none⟩) ∧
    w.grownBy w' (rowOf n g) ∧ lb' ≤ cb' ∧ cb' ≤ 1000000000 ∧ IRow w' gb ab' lb' (Plain.drop zs bt h hm wt done).bs ∧ ((Plain.drop zs bt h hm wt done).bs = [] → ab' = none)

theorem run_nil_bs (bt h hm d : Int) : (Plain.run [] bt h hm d).bs = [] := rfl
theorem drop_nil_bs (bt h hm wt d : Int) : (Plain.drop [] bt h hm wt d).bs = [] := by
  unfold Plain.drop Plain.fin; split <;> rfl

theorem zdrop_use (g o gb : Nat) (a : Option Addr) (n c : Nat) (ps : List (Option (List Int))) (ab : Option Addr) (lb cb : Nat) (zs : List Int) (bt h hm wt : Int) (done : Nat) (w : World)
    (hgg : 0 < n → 0 < lb → gb ≠ g) (hdn : done ≤ n) (hnc : n ≤ c) (hc : c ≤ 1000000000) (hlc : lb ≤ cb) (hcb : cb ≤ 1000000000) (hpl : ps.length = n)
    (hp : 0 < n → a = some ⟨g, o, none⟩ ∧ Cl w g o ps) (hz : IRow w gb ab lb zs) (hz0 : ∀ z ∈ zs, 0 ≤ z) :
    Calls Try.prog 9 #[.slice a n c, .slice ab lb cb, .int .i64 bt, .int .i64 h, .int .i64 hm, .int .i64 wt, .int .i64 done] w fun e w' => ZP g o gb n ps zs bt h hm wt done w e w' := by
  -- stand-ins for blocks that are not there
  obtain ⟨g', hg'⟩ : ∃ g', g' = if 0 < n then g else w.heap.size + 1 := ⟨_, rfl⟩
  obtain ⟨gb', hgb'⟩ : ∃ gb', gb' = if 0 < lb then gb else w.heap.size + 2 := ⟨_, rfl⟩
  have hglt : 0 < n → g < w.heap.size := fun h0 => by
    obtain ⟨us, hg, _⟩ := (hp h0).2.out
    exact lt_of_heap hg
  have hgblt : 0 < lb → gb < w.heap.size := fun h0 => by
    obtain ⟨off, _, hcl⟩ := hz.at_ h0
    exact World.block_lt_of_cell? _ _ (hcl 0 h0)
  have n1 : g' ≠ w.heap.size := by
    rw [hg']
    by_cases h1 : 0 < n
    · rw [if_pos h1]; have := hglt h1; omega
    · rw [if_neg h1]; omega
  have n2 : gb' ≠ w.heap.size := by
    rw [hgb']
    by_cases h1 : 0 < lb
    · rw [if_pos h1]; have := hgblt h1; omega
    · rw [if_neg h1]; omega
  have n3 : gb' ≠ g' := by
    rw [hg', hgb']
    by_cases h1 : 0 < n <;> by_cases h2 : 0 < lb
    · rw [if_pos h1, if_pos h2]; exact hgg h1 h2
    · rw [if_pos h1, if_neg h2]; have := hglt h1; omega
    · rw [if_neg h1, if_pos h2]; have := hgblt h2; omega
    · rw [if_neg h1, if_neg h2]; omega
  have hz' : IRow w gb' ab lb zs := by
    by_cases h2 : 0 < lb
    · rw [hgb', if_pos h2]; exact hz
    · exact ⟨hz.len_eq, fun h0 => absurd h0 h2⟩
  have hp' : 0 < n → a = some ⟨g', o, none⟩ ∧ ∃ cur, w.heap[g']? = some (.cells cur 30 (0, 0)) ∧ o + n ≤ cur.size := fun h0 => by
    rw [hg', if_pos h0]
    obtain ⟨us, e1, e2, _⟩ := (hp h0).2.out
    exact ⟨(hp h0).1, us, e1, by omega⟩
  refine (zdrop_any g' o gb' a n c ab lb cb zs bt h hm wt done w n1 n2 n3 hdn hnc hc hlc hcb hp' hz' hz0).mono ?_
  rintro e w' ⟨pv, bv, rfl, kg, kv, k3, k4, k5⟩
  obtain ⟨ab', lb', cb', rfl, v1, v2, v3, v4⟩ := kv.out
  have kg' : w.grownBy w' (rowOf n g) := by
    unfold rowOf
    by_cases h1 : 0 < n
    · rw [if_pos h1]; rw [hg', if_pos h1] at kg; exact kg
    · rw [if_neg h1]
      rw [hg', if_neg h1] at kg
      exact ⟨kg.os, kg.tape, kg.output, kg.size, fun k hk _ => kg.block k hk (fun e => by have := Option.some.inj e; omega)⟩
  have hbv : IRow w' gb ab' lb' (Plain.drop zs bt h hm wt done).bs := by
    by_cases h2 : 0 < lb
    · rw [hgb', if_pos h2] at v3; exact v3
    · obtain rfl : zs = [] := List.eq_nil_of_length_eq_zero (by have := hz.len_eq; omega)
      have e0 := v3.len_eq
      rw [drop_nil_bs] at e0
      exact ⟨v3.len_eq, fun h0 => by rw [List.length_nil] at e0; omega⟩
  have hcells : 0 < n → ∃ cur cur', w.heap[g]? = some (.cells cur 30 (0, 0)) ∧ w'.heap[g]? = some (.cells cur' 30 (0, 0)) ∧ cur.size = o + n ∧ cur'.size = cur.size ∧ (∀ j, j < ps.length → ∃ v, cur[o + j]? = some v ∧ PayC w v (ps.getD j none)) ∧ ∀ j, cur'[j]? = if o ≤ j ∧ j < o + done then some (.slice none 0 0) else cur[j]? := fun h0 => by
    obtain ⟨us, e1, e2, e3⟩ := (hp h0).2.out
    rw [hg', if_pos h0] at k5
    obtain ⟨cur', q1, q2, q3⟩ := k5 us e1 (by omega)
    exact ⟨us, cur', e1, q1, by omega, q2, e3, q3⟩
  have hclear : 0 < n → ∀ j, o ≤ j → j < o + done → w'.cell? ⟨g, j, none⟩ = some (.slice none 0 0) := fun h0 j j1 j2 => by
    obtain ⟨cur, cur', _, q1, _, _, _, q3⟩ := hcells h0
    rw [cell_of_row _ _ _ _ _ _ q1, q3 j, if_pos ⟨j1, j2⟩]
  have hkeep : 0 < n → ∀ j, j < o → w'.cell? ⟨g, j, none⟩ = w.cell? ⟨g, j, none⟩ := fun h0 j j1 => by
    obtain ⟨cur, cur', q0, q1, _, _, _, q3⟩ := hcells h0
    rw [cell_of_row _ _ _ _ _ _ q1, cell_of_row _ _ _ _ _ _ q0, q3 j, if_neg (by omega)]
  by_cases hd : done = n
  · refine ⟨none, 0, ab', lb', cb', by rw [k3 hd, hd, Nat.sub_self], by omega, by omega, fun _ => rfl, fun h0 => by omega, hclear, hkeep, kg', v1, v2, hbv, fun hb => (v4 hb).1⟩
  · have hlt : done < n := by omega
    have e4 := k4 hlt
    rw [hg', if_pos (by omega)] at e4
    refine ⟨_, _, ab', lb', cb', by rw [e4], by omega, by omega, fun h0 => by omega, fun _ => ⟨rfl, ?_⟩, hclear, hkeep, kg', v1, v2, hbv, fun hb => (v4 hb).1⟩
    obtain ⟨cur, cur', q0, q1, q2, q4, q5, q3⟩ := hcells (by omega)
    refine ⟨⟨cur', q1, by simp; omega, fun j hj => ?_⟩⟩
    rw [List.length_drop] at hj
    obtain ⟨v, r1, r2⟩ := q5 (done + j) (by omega)
    refine ⟨v, ?_, ?_⟩
    · rw [q3, if_neg (by omega), Nat.add_assoc]; exact r1
    · have : (ps.drop done).getD j none = ps.getD (done + j) none := by simp [List.getD]
      rw [this]
      exact r2.grown kg' (fun k hk => by
        unfold rowOf at hk
        rw [if_pos (by omega)] at hk
        cases hk
        exact ⟨_, _, q0⟩)

end Go.Proofs.Qxb6617798a
