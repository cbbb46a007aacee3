/-
  Seat b6617798a: 'fitBatches' (function 11), 'sumInts' (function 12): their contracts.
-/
import Derived.Test.Qxb6617798aUse2
import Derived.Test.Qxb6617798aPlainC
namespace Go.Proofs.Qxb6617798a
open Go.RowKit

theorem take_succ_sum {zs : List Int} {k : Nat} (h : k < zs.length) : (zs.take (k + 1)).sum = (zs.take k).sum + zs.getD k 0 := by
  have e : zs.getD k 0 = zs[k] := by simp [List.getD, h]
  rw [List.take_succ_eq_append_getElem h, List.sum_append, e]
  simp

theorem fit_at {zs : List Int} {k : Nat} (h : k < zs.length) (d : Int) : Plain.fit (zs.drop k) d = if zs.getD k 0 ≤ d then Plain.fit (zs.drop (k + 1)) (d - zs.getD k 0) + 1 else 0 := by
  have e : zs.getD k 0 = zs[k] := by simp [List.getD, h]
  rw [List.drop_eq_getElem_cons h, Plain.fit, e]

/-- What fitBatches answers. -/
def FitPost (zs : List Int) (d : Int) (w : World) (e : Ending) (w' : World) : Prop :=
  e = .returned (.tuple #[.int .i64 (Plain.fit zs d), .int .i64 (zs.take (Plain.fit zs d)).sum]) ∧ ∃ q, w' = w.drewN q

theorem fit_ret {zs : List Int} {d : Int} {t : Nat} {s : Int} (h1 : Plain.fit zs d = t) (h2 : s = (zs.take t).sum) : Ending.returned (.tuple #[.int .i64 (t : Int), .int .i64 s]) = .returned (.tuple #[.int .i64 (Plain.fit zs d), .int .i64 (zs.take (Plain.fit zs d)).sum]) := by
  rw [h1, h2]

set_option maxHeartbeats 1000000 in
set_option maxRecDepth 100000 in
theorem fit_any (gb : Nat) (a : Option Addr) (len cap : Nat) (zs : List Int) (d : Int) (w : World) (hl : len ≤ 1000000000) (hd0 : 0 ≤ d) (hd1 : d ≤ 1000000000) (hz : IRow w gb a len zs) (hz0 : ∀ z ∈ zs, 0 ≤ z) (hz1 : ∀ z ∈ zs, z ≤ 9223372036854775807) :
    Calls Try.prog 11 #[.slice a len cap, .int .i64 d] w fun e w' => FitPost zs d w e w' := by
  go_enter Try.func11, Try.ntmps11
  go_wp2
  go_loopw [6, 7, 8] (fun kk ss jj wr => ∃ (t q : Nat) (s : Int), t ≤ len ∧ kk = .int .i64 t ∧ jj = .int .i64 t ∧ ss = .int .i64 s ∧ 0 ≤ s ∧ s ≤ d ∧ wr = w.drewN q ∧ s = (zs.take t).sum ∧ Plain.fit zs d = t + Plain.fit (zs.drop t) (d - s)) (fun _ _ jj _ => len - (intOf jj).toNat)
  case atStart => exact ⟨0, 0, 0, Nat.zero_le _, rfl, rfl, rfl, by omega, hd0, rfl, by simp, by simp⟩
  case round =>
    obtain ⟨t, q, s, ht, rfl, rfl, rfl, hs0, hs1, rfl, hsum, hfit⟩ := hrel
    have HSum := hide hsum
    have HFit := hide hfit
    clear hsum hfit
    have hll := hz.len_eq
    by_cases hlt : t < len
    · obtain ⟨off, rfl, hcell⟩ := hz.at_ (by omega)
      have hck := hcell t hlt
      have hmem : zs.getD t 0 ∈ zs := by
        have e : zs.getD t 0 = zs[t] := by simp [List.getD, show t < zs.length by omega]
        rw [e]; exact List.getElem_mem _
      have g0 := hz0 _ hmem
      have g1 := hz1 _ hmem
      have FA := hide (fit_at (zs := zs) (k := t) (by omega) (d - s))
      have SA := hide (take_succ_sum (zs := zs) (k := t) (by omega))
      have HLL := hide hll
      clear hcell hmem hll
      generalize zs.getD t 0 = z at hck g0 g1 FA SA
      have hlt' : (t : Int) < (len : Int) := by omega
      by_cases hfit : d - s < z
      · go_wp2
        go_ret2
        refine ⟨fit_ret (t := t) ?_ HSum.out, _, rfl⟩
        rw [HFit.out, FA.out, if_neg (by omega)]; rfl
      · go_wp2
        go_quiet (fail)
        go_wp2
        go_roundw
        case rel =>
          refine ⟨t + 1, _, s + z, by omega, by go_num, by go_num, rfl, by omega, by omega, rfl, ?_, ?_⟩
          · rw [SA.out, ← HSum.out]
          · rw [HFit.out, FA.out, if_pos (by omega), show d - (s + z) = d - s - z by omega]; omega
        case measure => simp [intOf]; omega
    · go_wp2
      go_ret2
      refine ⟨fit_ret (t := t) ?_ HSum.out, _, rfl⟩
      rw [HFit.out, List.drop_of_length_le (by omega)]; rfl

set_option maxHeartbeats 1000000 in
set_option maxRecDepth 100000 in
theorem sum_any (gb : Nat) (a : Option Addr) (len cap : Nat) (zs : List Int) (w : World) (hl : len ≤ 1000000000) (hz : IRow w gb a len zs) (hz0 : ∀ z ∈ zs, 0 ≤ z) (hz1 : zs.sum ≤ 1000000000) :
    Calls Try.prog 12 #[.slice a len cap] w fun e w' => e = .returned (.int .i64 zs.sum) ∧ w = w' := by
  have hll := hz.len_eq
  have hle : ∀ t, (zs.take t).sum ≤ zs.sum := fun t => by
    have := Plain.sum_take_le zs t (max t zs.length) hz0 (Nat.le_max_left _ _)
    rw [List.take_of_length_le (Nat.le_max_right _ _)] at this
    exact this
  have hge : ∀ t, 0 ≤ (zs.take t).sum := fun t => Plain.sum_nonneg _ (fun z hz' => hz0 z (List.mem_of_mem_take hz'))
  have HLE := hide hle
  have HGE := hide hge
  have HLL := hide hll
  have HZ1 := hide hz1
  clear hle hge hll hz1
  go_enter Try.func12, Try.ntmps12
  go_wp2
  go_loop [3, 4] (fun ss i => ∃ (t : Nat) (s : Int), t ≤ len ∧ i = .int .i64 t ∧ ss = .int .i64 s ∧ s = (zs.take t).sum) (fun _ i => len - (intOf i).toNat)
  case atStart => exact ⟨0, 0, Nat.zero_le _, rfl, rfl, by simp⟩
  case round =>
    obtain ⟨t, s, ht, rfl, rfl, hsum⟩ := hrel
    have HSum := hide hsum
    clear hsum
    by_cases hlt : t < len
    · obtain ⟨off, rfl, hcell⟩ := hz.at_ (by omega)
      have hck := hcell t hlt
      have SA := hide (take_succ_sum (zs := zs) (k := t) (by have := HLL.out; omega))
      have b1 : 0 ≤ s := by rw [HSum.out]; exact HGE.out t
      have b2 : 0 ≤ s + zs.getD t 0 := by rw [HSum.out, ← SA.out]; exact HGE.out (t + 1)
      have b3 : s + zs.getD t 0 ≤ 1000000000 := by rw [HSum.out, ← SA.out]; exact Int.le_trans (HLE.out (t + 1)) HZ1.out
      clear hcell
      generalize zs.getD t 0 = z at hck SA b2 b3
      go_wp2
      go_round
      case rel => exact ⟨t + 1, s + z, by omega, by go_num, rfl, by rw [SA.out, ← HSum.out]⟩
      case measure => simp [intOf]; omega
    · have HE : Hid (s = zs.sum) := by
        show _ = _
        rw [HSum.out, List.take_of_length_le (by have := HLL.out; omega)]
      go_wp2
      go_ret
      exact ⟨by show Ending.returned (.int .i64 s) = _; rw [HE.out], rfl⟩

end Go.Proofs.Qxb6617798a
