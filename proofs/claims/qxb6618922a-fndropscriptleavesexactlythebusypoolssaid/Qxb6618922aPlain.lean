/-
  Seat b6618922a: the plain side: what a set of keys holds behind puts and drops.
-/
import Derived.Maps.OwnSet
namespace Go.Proofs.Qxb6618922a
open Go.Maps

/-- What a drop leaves of the keys. -/
def dropD (D : DataW Unit) (k : Lit) (busy : Bool) : DataW Unit := if busy then D else D.del k

theorem tidy_dropD {D : DataW Unit} (h : Tidy D) (k : Lit) (busy : Bool) : Tidy (dropD D k busy) := by
  unfold dropD; split
  · exact h
  · exact h.del k

theorem has_dropD_other {D : DataW Unit} {k k' : Lit} (hne : k' ≠ k) (busy : Bool) : Maps.has (dropD D k busy) k' = Maps.has D k' := by
  unfold dropD; split
  · rfl
  · exact has_del_other hne

theorem has_dropD_same {D : DataW Unit} {k : Lit} (busy : Bool) (h : Maps.has D k = true ∨ Maps.has D k = busy) : Maps.has (dropD D k busy) k = busy := by
  unfold dropD
  cases busy
  · exact has_del_same
  · rcases h with h | h <;> exact h

theorem size_dropD {D : DataW Unit} (h : Tidy D) (k : Lit) (busy : Bool) : Maps.size (dropD D k busy) + (if busy = false ∧ Maps.has D k = true then 1 else 0) = Maps.size D := by
  have e := size_del (k := k) h
  unfold dropD
  cases busy
  · cases hh : Maps.has D k <;> simp [hh] at e ⊢ <;> omega
  · simp

theorem put_one (kp : List UInt8) : Tidy ((DataW.map [] : DataW Unit).put (.string kp) (.agg [])) ∧ Maps.has ((DataW.map [] : DataW Unit).put (.string kp) (.agg [])) (.string kp) = true ∧ Maps.size ((DataW.map [] : DataW Unit).put (.string kp) (.agg [])) = 1 := by
  refine ⟨tidy_empty.put (by trivial) _, has_put_same isMap_empty (by trivial) _, ?_⟩
  rw [size_put tidy_empty]
  rfl

theorem put_two (kp ko : List UInt8) (hne : ko ≠ kp) : Tidy (((DataW.map [] : DataW Unit).put (.string kp) (.agg [])).put (.string ko) (.agg [])) ∧ Maps.has (((DataW.map [] : DataW Unit).put (.string kp) (.agg [])).put (.string ko) (.agg [])) (.string kp) = true ∧
    Maps.has (((DataW.map [] : DataW Unit).put (.string kp) (.agg [])).put (.string ko) (.agg [])) (.string ko) = true ∧ Maps.size (((DataW.map [] : DataW Unit).put (.string kp) (.agg [])).put (.string ko) (.agg [])) = 2 := by
  obtain ⟨h1, h2, h3⟩ := put_one kp
  have hl : (Lit.string ko) ≠ (Lit.string kp) := fun e => hne (by injection e)
  have h4 : Maps.has ((DataW.map [] : DataW Unit).put (.string kp) (.agg [])) (.string ko) = false := by rw [has_put_other hl]; rfl
  refine ⟨h1.put (by trivial) _, ?_, has_put_same h1.isMap (by trivial) _, ?_⟩
  · rw [has_put_other (fun e => hl e.symm), h2]
  · rw [size_put h1, h4, h3]; rfl

/-- Dropped once and once more: the set stays as it was behind the first. -/
theorem drop_facts {D : DataW Unit} (h : Tidy D) (k : Lit) (busy : Bool) (hh : Maps.has D k = true) :
    Maps.has (dropD D k busy) k = busy ∧ Maps.size (dropD D k busy) + (if busy then 0 else 1) = Maps.size D ∧ dropD (dropD D k busy) k busy = dropD D k busy := by
  refine ⟨has_dropD_same busy (.inl hh), ?_, ?_⟩
  · have := size_dropD h k busy
    cases busy <;> simp [hh] at this ⊢ <;> omega
  · cases busy
    · exact del_of_not_has has_del_same
    · rfl

end Go.Proofs.Qxb6618922a
