/-
  Seat b6617798a: small laws on what is kept; the drop once more, its numbers as the walk spells them.
-/
import Derived.Test.Qxb6617798aUse
namespace Go.Proofs.Qxb6617798a
open Go.RowKit

theorem IRow.below {w w' : World} {gb : Nat} {a : Option Addr} {len : Nat} {zs : List Int} (h : IRow w gb a len zs) (hb : Below w.heap.size w w') : IRow w' gb a len zs :=
  ⟨h.len_eq, fun h0 => by
    obtain ⟨off, e, hc⟩ := h.at_ h0
    exact ⟨off, e, fun j hj => (hb.cell (by exact World.block_lt_of_cell? _ _ (hc j hj))).trans (hc j hj)⟩⟩

theorem IRow.grown {w w' : World} {gb : Nat} {a : Option Addr} {len : Nat} {zs : List Int} (h : IRow w gb a len zs) {row : Option Nat} (hg : w.grownBy w' row) (hne : 0 < len → row ≠ some gb) : IRow w' gb a len zs :=
  ⟨h.len_eq, fun h0 => by
    obtain ⟨off, e, hc⟩ := h.at_ h0
    exact ⟨off, e, fun j hj => hg.cell (hc j hj) (fun e' => hne h0 e'.symm)⟩⟩

theorem IRow.lt {w : World} {gb : Nat} {a : Option Addr} {len : Nat} {zs : List Int} (h : IRow w gb a len zs) (h0 : 0 < len) : gb < w.heap.size := by
  obtain ⟨off, _, hc⟩ := h.at_ h0
  exact World.block_lt_of_cell? _ _ (hc 0 h0)

theorem IRow.nil_len {w : World} {gb : Nat} {a : Option Addr} {len : Nat} {zs : List Int} (h : IRow w gb a len zs) : a = none → len = 0 := fun hn => by
  rcases Nat.eq_zero_or_pos len with h0 | h0
  · exact h0
  · obtain ⟨off, e, _⟩ := h.at_ h0
    rw [hn] at e; cases e

theorem Cl.lt {w : World} {g o : Nat} {ps : List (Option (List Int))} (h : Cl w g o ps) : g < w.heap.size := by
  obtain ⟨us, hg, _⟩ := h.out
  exact lt_of_heap hg

theorem Cl.kind {w : World} {g o : Nat} {ps : List (Option (List Int))} (h : Cl w g o ps) : ∃ cur z, w.heap[g]? = some (.cells cur 30 z) := by
  obtain ⟨us, hg, _⟩ := h.out
  exact ⟨_, _, hg⟩

theorem Cl.below {w w' : World} {g o : Nat} {ps : List (Option (List Int))} (h : Cl w g o ps) (hb : Below w.heap.size w w') : Cl w' g o ps :=
  h.kept (Below.grownBy hb) (fun k hk => by cases hk) (fun e => by cases e)

theorem Cl.pIn_drop {w : World} {g o : Nat} {ps : List (Option (List Int))} (h : Cl w g o ps) (d : Nat) (hd : d ≤ ps.length) : PIn w (some ⟨g, o + d, none⟩) (ps.length - d) (ps.drop d) := by
  obtain ⟨us, hg, hs, hu⟩ := h.out
  refine ⟨by simp, fun _ => ⟨g, o + d, rfl, lt_of_heap hg, fun j hj => ?_⟩⟩
  obtain ⟨v, h1, h2⟩ := hu (d + j) (by omega)
  refine ⟨v, by rw [cell_of_row _ _ _ _ _ _ hg, Nat.add_assoc]; exact h1, ?_⟩
  have : (ps.drop d).getD j none = ps.getD (d + j) none := by simp [List.getD]
  rw [this]
  exact h2.payAt

theorem pIn_of {w : World} {g o : Nat} {a : Option Addr} {len : Nat} {ps : List (Option (List Int))} (hpl : ps.length = len) (h : 0 < len → a = some ⟨g, o, none⟩ ∧ Cl w g o ps) : PIn w a len ps := by
  rcases Nat.eq_zero_or_pos len with h0 | h0
  · exact ⟨hpl, fun h1 => by omega⟩
  · obtain ⟨rfl, hc⟩ := h h0
    have := hc.pIn
    rw [hpl] at this
    exact this

theorem PIn.drewN {w : World} {a : Option Addr} {len : Nat} {ps : List (Option (List Int))} (h : PIn w a len ps) (q : Nat) : PIn (w.drewN q) a len ps := h.below ⟨rfl, rfl, rfl, Nat.le_refl _, fun _ _ => rfl⟩
theorem IRow.drewN {w : World} {gb : Nat} {a : Option Addr} {len : Nat} {zs : List Int} (h : IRow w gb a len zs) (q : Nat) : IRow (w.drewN q) gb a len zs := h.below ⟨rfl, rfl, rfl, Nat.le_refl _, fun _ _ => rfl⟩

theorem rowOf_kind {w : World} {n g o : Nat} {a : Option Addr} {ps : List (Option (List Int))} (hp : 0 < n → a = some ⟨g, o, none⟩ ∧ Cl w g o ps) : ∀ k, rowOf n g = some k → ∃ cur z, w.heap[k]? = some (.cells cur 30 z) := fun k hk => by
  unfold rowOf at hk
  by_cases h0 : 0 < n
  · rw [if_pos h0] at hk; cases hk; exact (hp h0).2.kind
  · rw [if_neg h0] at hk; cases hk

theorem rowOf_ne {n g k : Nat} (h : 0 < n → g ≠ k) : rowOf n g ≠ some k := fun e => by
  unfold rowOf at e
  by_cases h0 : 0 < n
  · rw [if_pos h0] at e; cases e; exact h h0 rfl
  · rw [if_neg h0] at e; cases e

/-- The numbers that a drop hands back and what it leaves, its own numbers as letters. -/
def ZQ (g o gb n r : Nat) (ps : List (Option (List Int))) (D : Plain.Out) (done : Nat) (w : World) (e : Ending) (w' : World) : Prop :=
  ∃ a' c' ab' cb', e = .returned (.tuple #[.slice a' r c', .slice ab' D.bs.length cb', .int .i64 D.bt, .int .i64 D.h, .int .i64 D.hm, .int .i64 D.wt]) ∧
    r ≤ c' ∧ c' ≤ 1000000000 ∧ (r = 0 → a' = none) ∧ (0 < r → a' = some ⟨g, o + done, none⟩ ∧ Cl w' g (o + done) (ps.drop done)) ∧
    (0 < n → ∀ j, o ≤ j → j < o + done → w'.cell? ⟨g, j, none⟩ = some (.slice none 0 0)) ∧ (0 < n → ∀ j, j < o → w'.cell? ⟨g, j, none⟩ = w.cell? ⟨g, j, none⟩) ∧
    w.grownBy w' (rowOf n g) ∧ D.bs.length ≤ cb' ∧ cb' ≤ 1000000000 ∧ IRow w' gb ab' D.bs.length D.bs ∧ (D.bs = [] → ab' = none)

theorem zdrop_use2 (g o gb : Nat) (a : Option Addr) (n c : Nat) (ps : List (Option (List Int))) (ab : Option Addr) (lb cb : Nat) (zs : List Int) (bt h hm wt : Int) (done : Nat) (dI : Int) (r : Nat) (D : Plain.Out) (w : World)
    (hdI : dI = (done : Int)) (hr : r = n - done) (hD : D = Plain.drop zs bt h hm wt done)
    (hgg : 0 < n → 0 < lb → gb ≠ g) (hdn : done ≤ n) (hnc : n ≤ c) (hc : c ≤ 1000000000) (hlc : lb ≤ cb) (hcb : cb ≤ 1000000000) (hpl : ps.length = n)
    (hp : 0 < n → a = some ⟨g, o, none⟩ ∧ Cl w g o ps) (hz : IRow w gb ab lb zs) (hz0 : ∀ z ∈ zs, 0 ≤ z) :
    Calls Try.prog 9 #[.slice a n c, .slice ab lb cb, .int .i64 bt, .int .i64 h, .int .i64 hm, .int .i64 wt, .int .i64 dI] w fun e w' => ZQ g o gb n r ps D done w e w' := by
  subst hdI hr hD
  refine (zdrop_use g o gb a n c ps ab lb cb zs bt h hm wt done w hgg hdn hnc hc hlc hcb hpl hp hz hz0).mono ?_
  rintro e w' ⟨a', c', ab', lb', cb', rfl, x1, x2, x3, x4, x5, x6, x7, x8, x9, x10, x11⟩
  obtain rfl := x10.len_eq
  exact ⟨a', c', ab', cb', rfl, x1, x2, x3, x4, x5, x6, x7, x8, x9, x10, x11⟩

end Go.Proofs.Qxb6617798a
