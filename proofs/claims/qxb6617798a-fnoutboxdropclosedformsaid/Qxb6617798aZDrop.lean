/-
  Seat b6617798a: 'ZZOutboxDrop' (function 9): its contract.
-/
import Derived.Test.Qxb6617798aDrop
import Derived.Deep.QuietTactic
import Derived.BigQuiet
import Derived.WalkSmall
namespace Go.Proofs.Qxb6617798a
open Go.RowKit

/-- What ZZOutboxDrop hands back and leaves. -/
def ZPost (g o gb n c : Nat) (zs : List Int) (bt h hm wt : Int) (done : Nat) (w : World) (e : Ending) (w' : World) : Prop :=
  ∃ pv bv, e = .returned (.tuple #[pv, bv, .int .i64 (Plain.drop zs bt h hm wt done).bt, .int .i64 (Plain.drop zs bt h hm wt done).h, .int .i64 (Plain.drop zs bt h hm wt done).hm, .int .i64 (Plain.drop zs bt h hm wt done).wt]) ∧
    w.grownBy w' (some g) ∧ BV w' gb bv (Plain.drop zs bt h hm wt done).bs ∧ (done = n → pv = .slice none 0 0) ∧ (done < n → pv = .slice (some ⟨g, o + done, none⟩) (n - done) (c - done)) ∧
    (∀ cur, w.heap[g]? = some (.cells cur 30 (0, 0)) → o + n ≤ cur.size → ∃ cur', w'.heap[g]? = some (.cells cur' 30 (0, 0)) ∧ cur'.size = cur.size ∧ ∀ j, cur'[j]? = if o ≤ j ∧ j < o + done then some (.slice none 0 0) else cur[j]?)


theorem BV.drewN {w : World} {gb : Nat} {v : Value} {bs : List Int} (h : BV w gb v bs) (n : Nat) : BV (w.drewN n) gb v bs := by
  obtain ⟨a, len, c, e, h1, h2, h3, h4⟩ := h.out
  exact ⟨⟨a, len, c, e, h1, h2, ⟨h3.len_eq, fun h0 => by
    obtain ⟨off, e', hc⟩ := h3.at_ h0
    exact ⟨off, e', fun j hj => by rw [← hc j hj]; exact World.cell?_of_block (rfl)⟩⟩, h4⟩⟩

set_option maxHeartbeats 2000000 in
set_option maxRecDepth 100000 in
theorem zdrop_any (g o gb : Nat) (a : Option Addr) (n c : Nat) (ab : Option Addr) (lb cb : Nat) (zs : List Int) (bt h hm wt : Int) (done : Nat) (w : World)
    (hBg : g ≠ w.heap.size) (hgB : gb ≠ w.heap.size) (hgg : gb ≠ g)
    (hdn : done ≤ n) (hnc : n ≤ c) (hc : c ≤ 1000000000) (hlc : lb ≤ cb) (hcb : cb ≤ 1000000000)
    (hp : 0 < n → a = some ⟨g, o, none⟩ ∧ ∃ cur, w.heap[g]? = some (.cells cur 30 (0, 0)) ∧ o + n ≤ cur.size)
    (hz : IRow w gb ab lb zs) (hz0 : ∀ z ∈ zs, 0 ≤ z) :
    Calls Try.prog 9 #[.slice a n c, .slice ab lb cb, .int .i64 bt, .int .i64 h, .int .i64 hm, .int .i64 wt, .int .i64 done] w fun e w' => ZPost g o gb n c zs bt h hm wt done w e w' := by
  have hA : ∀ k, k ≠ w.heap.size → (w.alloc (.cells #[.slice a n c, .slice ab lb cb, .int .i64 bt, .int .i64 h, .int .i64 hm, .int .i64 wt] 40)).heap[k]? = w.heap[k]? := fun k hk => by
    show (w.heap.push _)[k]? = _
    rw [Array.getElem?_push, if_neg hk]
  have hcall := drop_any w.heap.size g o gb a n c ab lb cb zs bt h hm wt done (w.alloc (.cells #[.slice a n c, .slice ab lb cb, .int .i64 bt, .int .i64 h, .int .i64 hm, .int .i64 wt] 40))
    ⟨heap_alloc_new w _⟩ (fun e => hBg e.symm) hgB hgg hdn hnc hc hlc hcb (fun h0 => by rw [hA g hBg]; exact hp h0)
    ⟨hz.len_eq, fun h0 => by
      obtain ⟨off, e', hcl⟩ := hz.at_ h0
      exact ⟨off, e', fun j hj => (World.cell?_of_block (w := w) (hA gb hgB)).trans (hcl j hj)⟩⟩ hz0
  have HC := hide hcall
  clear hcall
  go_enter Try.func9, Try.ntmps9
  go_wp2_with fail
  refine HC.out.mono ?_
  rintro e w' ⟨rfl, w1, pv, bv, k1, k2, kB, kV, k3, k4, k5⟩
  obtain ⟨e0, e1, e2, e3, e4, e5⟩ := kB.cells
  have HV := hide kV
  have H3 := hide k3
  have H4 := hide k4
  have H5 := hide k5
  clear kV k3 k4 k5
  go_wp2_with fail
  go_quiet (fail)
  go_wp2
  refine bodyPost_ret (v := .tuple #[pv, bv, .int .i64 (Plain.drop zs bt h hm wt done).bt, .int .i64 (Plain.drop zs bt h hm wt done).h, .int .i64 (Plain.drop zs bt h hm wt done).hm, .int .i64 (Plain.drop zs bt h hm wt done).wt]) (by simp [results, Try.results9, go_sem]) rfl ⟨pv, bv, rfl, ?_, HV.out.drewN _, H3.out, H4.out, fun cur e6 e7 => ?_⟩
  · refine ⟨k2.os.trans k1.os, k2.tape.trans k1.tape, k2.output.trans k1.output, ?_, fun k hk hne => ?_⟩
    · have q1 := k2.size
      have q2 := k1.size
      simp at q2
      show _ ≤ w'.heap.size
      omega
    · show w'.heap[k]? = _
      rw [k2.block k (by omega), k1.block k (fun e => hne (by rw [e])), hA k (by omega)]
  · exact H5.out cur (by rw [hA g hBg]; exact e6) e7
end Go.Proofs.Qxb6617798a
