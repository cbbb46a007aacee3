/-
  Seat b6617798a: 'cloneInts' (function 8) and 'cloneBytes' (function 15): their contracts.
-/
import Derived.Test.Qxb6617798aMem
namespace Go.Proofs.Qxb6617798a
open Go.RowKit

theorem info3 : (Try.prog.info? 3).map (fun i => (i.zero, i.size, i.bytes)) = some (some (.int .i64 0), 1, 8) := by kernel_rfl
theorem info5 : (Try.prog.info? 5).map (fun i => (i.zero, i.size, i.bytes)) = some (some (.int .u8 0), 1, 1) := by kernel_rfl
theorem info30 : (Try.prog.info? 30).map (fun i => (i.zero, i.size, i.bytes)) = some (some (.slice none 0 0), 1, 24) := by kernel_rfl

/-- A row that is owned to its capacity is its block. -/
theorem own_block {w : World} {base g n : Nat} {e : TypeId} {xs : List Value} (h : w.ownsRow base e 1 (.slice (some ⟨g, 0, none⟩) n n) n xs) : w.heap[g]? = some (.cells xs.toArray e (0, 0)) := by
  rcases h.2 with ⟨h', _⟩ | ⟨g', cap', cur, h', _, hg, _, _, hs, ht⟩
  · simp at h'
  · simp only [Value.slice.injEq, Option.some.injEq, Addr.mk.injEq, and_true, true_and] at h'
    obtain ⟨rfl, rfl⟩ := h'
    rw [List.take_of_length_le (by simp; omega)] at ht
    rw [hg, ← ht]

set_option maxHeartbeats 1000000 in
set_option maxRecDepth 100000 in
/-- cloneInts at a slice that is not nil. -/
theorem cloneInts_some (x : Addr) (len cap : Nat) (zs : List Int) (w : World) (hl : len ≤ 100000000) (hzl : zs.length = len)
    (hat : 0 < len → ∃ b off, x = ⟨b, off, none⟩ ∧ b < w.heap.size ∧ ∀ j, j < len → w.cell? ⟨b, off + j, none⟩ = some (.int .i64 (zs.getD j 0))) :
    Calls Try.prog 8 #[.slice (some x) len cap] w fun e w' => e = .returned (.slice (some ⟨w.heap.size, 0, none⟩) len len) ∧ w'.heap[w.heap.size]? = some (.cells (zs.map (Value.int .i64)).toArray 3 (0, 0)) ∧ Below w.heap.size w w' := by
  obtain ⟨i0, hi, hz0, hz1, hz2⟩ := info_parts info3
  have hq := fun wx : World => Lib.run_eql_slice_nil (P := Try.prog) wx 23 3 (some x) len cap 0 0 Try.underlying23
  simp only [Option.isNone_some] at hq
  go_enter Try.func8, Try.ntmps8
  go_wp2_with (at_make; refine wpList_make_full _ rfl _ _ 23 rfl w.heap.size 3 i0 (.int .i64 0) 1 Try.underlying23 hi hz0 hz1 _ _ _ _ len rfl rfl rfl rfl ?b2 ?b3 (Nat.le_refl _) ?_)
  case b2 => rw [hz2]; omega
  case b3 => unfold maxLen; omega
  intro w0 hown0 hgrow0
  go_wp2
  go_loopw [4] (fun i wr => ∃ (k : Nat) (us : List Value), k ≤ len ∧ i = .int .i64 k ∧ wr.ownsRow w.heap.size 3 1 (.slice (some ⟨w.heap.size, 0, none⟩) len len) len us ∧ us.length = len ∧ (∀ j, j < k → us[j]? = some (.int .i64 (zs.getD j 0))) ∧ Below w.heap.size w wr)
    (fun i _ => len - (intOf i).toNat)
  case atStart => exact ⟨0, _, Nat.zero_le _, rfl, hown0, by have := hown0.1; simpa using this, fun j hj => by omega, (Below.refl _ _).grown hgrow0 (Nat.le_refl _) (fun k h => by cases h)⟩
  case round =>
    obtain ⟨k, us, hk, rfl, hown, hul, hus, hnx⟩ := hrel
    by_cases hlt : k < len
    · obtain ⟨b, off, rfl, hbl, hcell⟩ := hat (by omega)
      have hcx : wr.cell? ⟨b, off + k, none⟩ = some (.int .i64 (zs.getD k 0)) := (hnx.cell (by exact hbl)).trans (hcell k hlt)
      generalize hzk : zs.getD k 0 = z at hcx
      have HZ := hide hzk
      have hck : wr.cell? ⟨w.heap.size, k, none⟩ = some us[k] := by rw [hown.cellAt k (by omega)]; exact List.getElem?_eq_getElem (by omega)
      have hfk := hown.frozenAt k
      generalize us[k] = u0 at hck
      have R := hown.stored k (.int .i64 z)
      have R1 := hide R.1
      have R2 := hide R.2
      have HUS := hide hus
      clear hzk R hus hcell
      go_wp2
      go_roundw
      case rel =>
        refine ⟨k + 1, us.set k (.int .i64 z), by omega, by go_num, R1.out, by simpa using hul, fun j hj => ?_, hnx.grown R2.out hnx.size (fun j h => by cases h; exact Nat.le_refl _)⟩
        by_cases hjk : j = k
        · subst hjk
          rw [HZ.out, List.getElem?_set_self (by omega)]
        · rw [List.getElem?_set_ne (by omega)]
          exact HUS.out j (by omega)
      case measure => simp [intOf]; omega
    · have hkl : k = len := by omega
      subst hkl
      have hzs : us = zs.map (Value.int .i64) := by
        apply List.ext_getElem?
        intro j
        by_cases hj : j < zs.length
        · rw [hus j (by omega)]
          simp [List.getD, hj]
        · rw [List.getElem?_eq_none (by omega), List.getElem?_eq_none (by simp; omega)]
      have HE := hide (own_block hown)
      rw [hzs] at HE
      clear hzs hus hown
      go_wp2
      go_ret
      exact ⟨rfl, HE.out, hnx⟩

set_option maxHeartbeats 400000 in
/-- cloneInts at nil. -/
theorem cloneInts_none (len cap : Nat) (w : World) : Calls Try.prog 8 #[.slice none len cap] w fun e w' => e = .returned (.slice none 0 0) ∧ w = w' := by
  have hq := fun wx : World => Lib.run_eql_slice_nil (P := Try.prog) wx 23 3 none len cap 0 0 Try.underlying23
  simp only [Option.isNone_none] at hq
  go_enter Try.func8, Try.ntmps8
  go_wp2
  go_ret
  exact ⟨rfl, rfl⟩

set_option maxHeartbeats 1000000 in
set_option maxRecDepth 100000 in
/-- cloneBytes at a slice that is not nil. -/
theorem cloneBytes_some (x : Addr) (len cap : Nat) (zs : List Int) (w : World) (hl : len ≤ 100000000) (hzl : zs.length = len)
    (hat : 0 < len → ∃ b off, x = ⟨b, off, none⟩ ∧ b < w.heap.size ∧ ∀ j, j < len → w.cell? ⟨b, off + j, none⟩ = some (.int .u8 (zs.getD j 0))) :
    Calls Try.prog 15 #[.slice (some x) len cap] w fun e w' => e = .returned (.slice (some ⟨w.heap.size, 0, none⟩) len len) ∧ w'.heap[w.heap.size]? = some (.cells (zs.map (Value.int .u8)).toArray 5 (0, 0)) ∧ Below w.heap.size w w' := by
  obtain ⟨i0, hi, hz0, hz1, hz2⟩ := info_parts info5
  have hq := fun wx : World => Lib.run_eql_slice_nil (P := Try.prog) wx 30 5 (some x) len cap 0 0 Try.underlying30
  simp only [Option.isNone_some] at hq
  go_enter Try.func15, Try.ntmps15
  go_wp2_with (at_make; refine wpList_make_full _ rfl _ _ 30 rfl w.heap.size 5 i0 (.int .u8 0) 1 Try.underlying30 hi hz0 hz1 _ _ _ _ len rfl rfl rfl rfl ?b2 ?b3 (Nat.le_refl _) ?_)
  case b2 => rw [hz2]; omega
  case b3 => unfold maxLen; omega
  intro w0 hown0 hgrow0
  go_wp2
  go_loopw [4] (fun i wr => ∃ (k : Nat) (us : List Value), k ≤ len ∧ i = .int .i64 k ∧ wr.ownsRow w.heap.size 5 1 (.slice (some ⟨w.heap.size, 0, none⟩) len len) len us ∧ us.length = len ∧ (∀ j, j < k → us[j]? = some (.int .u8 (zs.getD j 0))) ∧ Below w.heap.size w wr)
    (fun i _ => len - (intOf i).toNat)
  case atStart => exact ⟨0, _, Nat.zero_le _, rfl, hown0, by have := hown0.1; simpa using this, fun j hj => by omega, (Below.refl _ _).grown hgrow0 (Nat.le_refl _) (fun k h => by cases h)⟩
  case round =>
    obtain ⟨k, us, hk, rfl, hown, hul, hus, hnx⟩ := hrel
    by_cases hlt : k < len
    · obtain ⟨b, off, rfl, hbl, hcell⟩ := hat (by omega)
      have hcx : wr.cell? ⟨b, off + k, none⟩ = some (.int .u8 (zs.getD k 0)) := (hnx.cell (by exact hbl)).trans (hcell k hlt)
      generalize hzk : zs.getD k 0 = z at hcx
      have HZ := hide hzk
      have hck : wr.cell? ⟨w.heap.size, k, none⟩ = some us[k] := by rw [hown.cellAt k (by omega)]; exact List.getElem?_eq_getElem (by omega)
      have hfk := hown.frozenAt k
      generalize us[k] = u0 at hck
      have R := hown.stored k (.int .u8 z)
      have R1 := hide R.1
      have R2 := hide R.2
      have HUS := hide hus
      clear hzk R hus hcell
      go_wp2
      go_roundw
      case rel =>
        refine ⟨k + 1, us.set k (.int .u8 z), by omega, by go_num, R1.out, by simpa using hul, fun j hj => ?_, hnx.grown R2.out hnx.size (fun j h => by cases h; exact Nat.le_refl _)⟩
        by_cases hjk : j = k
        · subst hjk
          rw [HZ.out, List.getElem?_set_self (by omega)]
        · rw [List.getElem?_set_ne (by omega)]
          exact HUS.out j (by omega)
      case measure => simp [intOf]; omega
    · have hkl : k = len := by omega
      subst hkl
      have hzs : us = zs.map (Value.int .u8) := by
        apply List.ext_getElem?
        intro j
        by_cases hj : j < zs.length
        · rw [hus j (by omega)]
          simp [List.getD, hj]
        · rw [List.getElem?_eq_none (by omega), List.getElem?_eq_none (by simp; omega)]
      have HE := hide (own_block hown)
      rw [hzs] at HE
      clear hzs hus hown
      go_wp2
      go_ret
      exact ⟨rfl, HE.out, hnx⟩

set_option maxHeartbeats 400000 in
/-- cloneBytes at nil. -/
theorem cloneBytes_none (len cap : Nat) (w : World) : Calls Try.prog 15 #[.slice none len cap] w fun e w' => e = .returned (.slice none 0 0) ∧ w = w' := by
  have hq := fun wx : World => Lib.run_eql_slice_nil (P := Try.prog) wx 30 5 none len cap 0 0 Try.underlying30
  simp only [Option.isNone_none] at hq
  go_enter Try.func15, Try.ntmps15
  go_wp2
  go_ret
  exact ⟨rfl, rfl⟩

end Go.Proofs.Qxb6617798a
