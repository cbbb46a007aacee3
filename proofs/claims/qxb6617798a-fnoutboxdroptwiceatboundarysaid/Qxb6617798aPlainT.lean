/-
  Seat b6617798a: the plain law 'dropping at a batch's boundary and then more is dropping at once'.
-/
import Derived.Test.Qxb6617798aPlain
namespace Go.Proofs.Qxb6617798a.Plain
open Go.RowKit (wrap64)

theorem run_boundary : ∀ (zs : List Int) (bt h hm : Int) (j : Nat), (∀ z ∈ zs, 0 ≤ z) → ∃ rem bt' h' hm', run zs bt h hm (zs.take j).sum = ⟨rem, bt', h', hm', 0⟩ ∧ (∀ z ∈ rem, 0 ≤ z) ∧ ∀ m : Int, 0 ≤ m → run zs bt h hm ((zs.take j).sum + m) = run rem bt' h' hm' m
  | [], bt, h, hm, j, _ => ⟨[], bt, h, hm, by simp [run], by simp, fun m _ => by simp⟩
  | c :: rest, bt, h, hm, 0, hz => by
    have hc : 0 ≤ c := hz c (by simp)
    by_cases h0 : c ≤ 0
    · obtain rfl : c = 0 := by omega
      obtain ⟨rem, bt', h', hm', e1, e2, e3⟩ := run_boundary rest (wrap64 (bt - 0)) (if 0 < h then wrap64 (h - 1) else h) (if 0 < h then wrap64 (hm - 0) else hm) 0 (fun z hz' => hz z (by simp [hz']))
      refine ⟨rem, bt', h', hm', ?_, e2, fun m hm0 => ?_⟩
      · simp only [List.take_zero, List.sum_nil] at e1 ⊢
        rw [run, if_pos (Int.le_refl _), Int.sub_self]
        exact e1
      · have := e3 m hm0
        simp only [List.take_zero, List.sum_nil, Int.zero_add] at this ⊢
        rw [run, if_pos hm0, Int.sub_zero m]
        exact this
    · refine ⟨c :: rest, bt, h, hm, ?_, hz, fun m _ => ?_⟩
      · simp only [List.take_zero, List.sum_nil]
        rw [run, if_neg h0]
      · simp only [List.take_zero, List.sum_nil, Int.zero_add]
  | c :: rest, bt, h, hm, j + 1, hz => by
    have hc : 0 ≤ c := hz c (by simp)
    have hr : ∀ z ∈ rest, 0 ≤ z := fun z hz' => hz z (by simp [hz'])
    have hs : 0 ≤ (rest.take j).sum := by
      have : ∀ (l : List Int), (∀ z ∈ l, 0 ≤ z) → 0 ≤ l.sum := by
        intro l
        induction l with
        | nil => intro _; simp
        | cons y l ih => intro hl; have := ih (fun z hz' => hl z (by simp [hz'])); have := hl y (by simp); rw [List.sum_cons]; omega
      exact this _ (fun z hz' => hr z (List.mem_of_mem_take hz'))
    obtain ⟨rem, bt', h', hm', e1, e2, e3⟩ := run_boundary rest (wrap64 (bt - c)) (if 0 < h then wrap64 (h - 1) else h) (if 0 < h then wrap64 (hm - c) else hm) j hr
    refine ⟨rem, bt', h', hm', ?_, e2, fun m hm0 => ?_⟩
    · rw [List.take_succ_cons, List.sum_cons, run, if_pos (by omega), show c + (rest.take j).sum - c = (rest.take j).sum by omega]
      exact e1
    · rw [List.take_succ_cons, List.sum_cons, run, if_pos (by omega), show c + (rest.take j).sum + m - c = (rest.take j).sum + m by omega]
      exact e3 m hm0

/-- THE LAW: the second drop goes on from what the first left. -/
theorem drop_twice (zs : List Int) (bt h hm wt : Int) (j : Nat) (m : Int) (hz : ∀ z ∈ zs, 0 ≤ z) (hm0 : 0 ≤ m) (A : Int) (hA : A = (zs.take j).sum) :
    drop (drop zs bt h hm wt A).bs (drop zs bt h hm wt A).bt (drop zs bt h hm wt A).h (drop zs bt h hm wt A).hm (drop zs bt h hm wt A).wt m = drop zs bt h hm wt (A + m) ∧ ∀ z ∈ (drop zs bt h hm wt A).bs, 0 ≤ z := by
  obtain ⟨rem, bt', h', hm', e1, e2, e3⟩ := run_boundary zs bt h hm j hz
  rw [← hA] at e1
  have d1 : drop zs bt h hm wt A = ⟨rem, bt', h', hm', wt⟩ := by
    unfold drop; rw [e1]; rfl
  rw [d1]
  refine ⟨?_, e2⟩
  show fin (run rem bt' h' hm' m) wt = fin (run zs bt h hm (A + m)) wt
  rw [hA, e3 m hm0]

end Go.Proofs.Qxb6617798a.Plain
