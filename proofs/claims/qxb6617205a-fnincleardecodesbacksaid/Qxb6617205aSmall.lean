import Derived.Test.Qxb6617205aInClear
namespace Go.Proofs.Qxb6617205a
open Go.RowKit

theorem inClear_any (t : Int) (a1 a2 a3 a4 : ByteArray) (a5 a6 : Int) (a7 : ByteArray) (a : Option Addr) (len cap : Nat) (zs : List Int) (w : World) (hlen : len ≤ 65536) (hr : Row w a len zs) :
    Calls Try.prog 7 #[.agg #[.int .i64 t, .string a1, .string a2, .string a3, .string a4, .int .i64 a5, .int .i64 a6, .string a7], .slice a len cap] w
      fun e w' => ∃ r : ByteArray, e = .returned (.string r) ∧ r.toList = Plain.clear t zs ∧ Below w.heap.size w w' := by
  by_cases ht : t = 0
  · subst ht
    exact clear_imsi a1 a2 a3 a4 a5 a6 a7 a len cap zs w hlen hr
  · refine (clear_other t a1 a2 a3 a4 a5 a6 a7 a len cap zs w (bne_iff_ne.2 ht) hr).mono ?_
    rintro e w' ⟨rfl, hb⟩
    exact ⟨_, rfl, by rw [strOf_toList]; unfold Plain.clear; rw [if_neg ht], hb⟩

set_option maxHeartbeats 400000 in
theorem suci_any (t : Int) (a1 a2 a3 a4 : ByteArray) (a5 a6 : Int) (a7 : ByteArray) (w : World) :
    Calls Try.prog 6 #[.int .i64 t, .string a1, .string a2, .string a3, .string a4, .int .i64 a5, .int .i64 a6, .string a7] w
      fun e w' => e = .returned (.agg #[.int .i64 t, .string a1, .string a2, .string a3, .string a4, .int .i64 a5, .int .i64 a6, .string a7]) ∧ Below w.heap.size w w' := by
  go_enter Try.func6, Try.ntmps6
  go_wp2
  exact bodyPost_ret (v := .agg #[.int .i64 t, .string a1, .string a2, .string a3, .string a4, .int .i64 a5, .int .i64 a6, .string a7]) (by simp [results, Try.results6, go_sem]) rfl ⟨rfl, (Below.refl _ _).alloc (Nat.le_refl _) _⟩

set_option maxHeartbeats 400000 in
theorem bytes10_any (t : Int) (a1 a2 a3 a4 : ByteArray) (a5 a6 : Int) (a7 : ByteArray) (a : Option Addr) (len cap : Nat) (k : Int) (w : World) (h1 : a1.size ≤ maxLen) (h2 : a2.size ≤ maxLen) (h3 : a3.size ≤ maxLen) (h4 : a4.size ≤ maxLen) (h7 : a7.size ≤ maxLen) (hl : len ≤ maxLen) :
    Calls Try.prog 10 #[.int .i64 t, .string a1, .string a2, .string a3, .string a4, .int .i64 a5, .int .i64 a6, .string a7, .slice a len cap, .int .i64 k] w
      fun e w' => ∃ b : Bool, e = .returned (.bool b) ∧ w = w' := by
  unfold maxLen at *
  go_enter Try.func10, Try.ntmps10
  go_wp2
  all_goals
    go_ret
    exact ⟨_, rfl, rfl⟩

set_option maxHeartbeats 400000 in
theorem bytes5_any (t : Int) (a1 a2 a3 a4 : ByteArray) (a5 a6 : Int) (a7 : ByteArray) (a : Option Addr) (len cap : Nat) (w : World) (h1 : a1.size ≤ maxLen) (h2 : a2.size ≤ maxLen) (h3 : a3.size ≤ maxLen) (h4 : a4.size ≤ maxLen) (h7 : a7.size ≤ maxLen) (hl : len ≤ maxLen) :
    Calls Try.prog 5 #[.int .i64 t, .string a1, .string a2, .string a3, .string a4, .int .i64 a5, .int .i64 a6, .string a7, .slice a len cap] w
      fun e w' => ∃ b : Bool, e = .returned (.bool b) ∧ w = w' := by
  unfold maxLen at *
  go_enter Try.func5, Try.ntmps5
  go_wp2
  all_goals
    go_ret
    exact ⟨_, rfl, rfl⟩

set_option maxHeartbeats 400000 in
theorem odd_any (a : Option Addr) (len cap : Nat) (zs : List Int) (w : World) (hlen : len ≤ 65536) (hr : Row w a len zs) :
    Calls Try.prog 8 #[.slice a len cap] w fun e w' => e = .returned (.bool (Plain.odd zs)) ∧ w = w' := by
  by_cases h0 : 0 < len
  · obtain ⟨b, off, rfl, hbl, hc⟩ := hr.at_ h0
    have hcx := hc (len - 1) (by omega)
    have hll := hr.len_eq
    have he : zs.getD (len - 1) 0 = zs[len - 1] := by simp [List.getD, show len - 1 < zs.length by omega]
    have hby := hr.byte (zs[len - 1]) (List.getElem_mem _)
    have HO : Hid (Plain.odd zs = (zs[len - 1] / 16 == 15)) := by
      show _ = _
      unfold Plain.odd
      have : zs.getLast? = some zs[len - 1] := by
        rw [List.getLast?_eq_getElem?]
        have e1 : zs.length - 1 = len - 1 := by omega
        rw [show zs[zs.length - 1]? = zs[len - 1]? from by rw [e1]]
        exact List.getElem?_eq_getElem _
      rw [this]
      rw [Bool.eq_iff_iff]
      simp
      omega
    rw [he] at hcx
    clear he hc hr
    generalize zs[len - 1] = c at hcx hby HO
    obtain ⟨c1, c2⟩ := hby
    go_enter Try.func8, Try.ntmps8
    go_wp2
    go_ret
    exact ⟨by rw [HO.out]; rfl, rfl⟩
  · have hl0 : len = 0 := by omega
    subst hl0
    obtain rfl : zs = [] := List.eq_nil_of_length_eq_zero hr.len_eq
    go_enter Try.func8, Try.ntmps8
    go_wp2
    go_ret
    exact ⟨rfl, rfl⟩
end Go.Proofs.Qxb6617205a
