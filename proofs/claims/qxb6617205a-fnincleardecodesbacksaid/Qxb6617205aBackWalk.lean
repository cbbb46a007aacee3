/-
  Seat b6617205a: the walk of 'FnInClearDecodesBack' (function 3), out of its callees' contracts.
-/
import Derived.Test.Qxb6617205aNib
import Derived.WalkKit
import Derived.ProofKit
import Derived.OpenShut
import Derived.ShutString
import Derived.ChangeOld
import Derived.Below
namespace Go.Proofs.Qxb6617205a.fnInClearDecodesBack
open Go.ChangeShapes Go.WideShapes Go.ChangeAt Go.RowKit
open Go.ChangeMaps (open_string shut_string)
set_option linter.unusedVariables false

/-- WHAT THE WALK IS TOLD OF A SLICE OF INTEGERS THAT CAME IN: it is nil; or it leads to a row of 'cap' cells, the numbers 'zs' (the first 'len' are its elements, the rest its spare room), each fitting its kind. -/
def IsRow (k : IntKind) (w : World) (a : Option Addr) (len cap : Nat) (zs : List Int) : Prop :=
  (a = none ∧ len = 0 ∧ cap = 0 ∧ zs = []) ∨
  ∃ x, a = some x ∧ len ≤ cap ∧ cap ≤ maxLen ∧ zs.length = cap ∧ (∀ i, i < zs.length → w.cell? (x.add i) = some (.int k (zs.getD i 0))) ∧ ∀ n ∈ zs, (Lit.int k n).wf = true

/-! ### STEP 1: THE WALK: the Go text returns true, AND WRITES NOTHING THAT WAS THERE: 'Below w.heap.size w w'' (Derived/Below.lean: '.refl', '.alloc', '.drew', '.setCell' at a new block, '.trans'). Open each 'IsRow' by 'rcases' AHEAD of 'go_enter'; part every test ahead of the walk. -/
theorem clear_sizes {zs : List Int} {s : ByteArray} (hz : ∀ z ∈ zs, 0 ≤ z ∧ z ≤ 255) (h : s.toList = Plain.clear 0 zs) : (Plain.odd zs = true → s.size = 2 * zs.length - 1) ∧ (Plain.odd zs = false → s.size = 2 * zs.length) ∧ s.size ≤ 2 * zs.length := by
  have e := Plain.clear_length zs hz
  rw [← h, ← size_toList] at e
  refine ⟨fun ho => by rw [ho] at e; exact e, fun ho => by rw [ho] at e; exact e, ?_⟩
  split at e <;> omega

theorem dig_ok (got : ByteArray) (j m : Nat) (h : j < got.size) (hg : got.toList[j]? = some (Plain.hexd m)) (hm : m < 16) (n : Int) (hn : n = (m : Int)) :
    (0 ≤ n ∧ n < 10 ∧ (((got[j]'h).toNat : Nat) : Int) = 48 + n) ∨ (10 ≤ n ∧ n < 16 ∧ (((got[j]'h).toNat : Nat) : Int) = 87 + n) := by
  have e : got[j]'h = Plain.hexd m := by
    rw [ByteArray.toList_eq, Array.getElem?_toList] at hg
    have : got.data[j]? = some (got[j]'h) := Array.getElem?_eq_getElem h
    rw [this] at hg
    exact Option.some.inj hg
  rw [e]
  rcases Plain.hexd_cases m hm with ⟨a, b⟩ | ⟨a, b, c⟩ <;> omega

theorem or_back_nat : ∀ n : Fin 256, (n.val % 16) ||| (n.val / 16 * 16) = n.val := by decide +kernel

theorem or_back (c : Int) (h0 : 0 ≤ c) (h1 : c ≤ 255) : bits BinOp.or IntKind.u8 (c % 16) (c / 16 * 16) = c := by
  rw [u8_or _ _ (by omega) (by omega) (by omega) (by omega)]
  have e1 : (c % 16).toNat = c.toNat % 16 := by omega
  have e2 : (c / 16 * 16).toNat = c.toNat / 16 * 16 := by omega
  rw [e1, e2, or_back_nat ⟨c.toNat, by omega⟩]
  show ((c.toNat : Nat) : Int) = c
  omega

set_option maxHeartbeats 4000000 in
theorem walk (a0 : Int) (a1 : ByteArray) (a2 : ByteArray) (a3 : ByteArray) (a4 : ByteArray) (a5 : Int) (a6 : Int) (a7 : ByteArray) (a8 : Option Addr) (len8 cap8 : Nat) (z8 : List Int) (w : World) (w0 : (Lit.int .i64 a0).wf = true) (w1 : a1.size ≤ maxLen) (w2 : a2.size ≤ maxLen) (w3 : a3.size ≤ maxLen) (w4 : a4.size ≤ maxLen) (w5 : (Lit.int .i64 a5).wf = true) (w6 : (Lit.int .i64 a6).wf = true) (w7 : a7.size ≤ maxLen) (w8 : IsRow .u8 w a8 len8 cap8 z8) :
    Calls Try.prog 3 #[.int .i64 a0, .string a1, .string a2, .string a3, .string a4, .int .i64 a5, .int .i64 a6, .string a7, .slice a8 len8 cap8] w fun e w' => e = .returned (.bool true) ∧ Below w.heap.size w w' := by
  have hrow : Row w a8 len8 (z8.take len8) := by
    rcases w8 with ⟨rfl, rfl, rfl, rfl⟩ | ⟨x, rfl, hlc, hcm, hzl, hcell, hwf⟩
    · exact ⟨rfl, by simp, fun h => by omega⟩
    · refine ⟨by simp; omega, fun z hz => ?_, fun h0 => ?_⟩
      · exact bounds_u8 (hwf z (List.mem_of_mem_take hz))
      · obtain ⟨b, off, rfl, hc⟩ := ints_at hcell (by omega)
        refine ⟨b, off, rfl, World.block_lt_of_cell? _ _ (hc 0 (by omega)), fun j hj => ?_⟩
        rw [hc j (by omega)]
        simp [List.getD, hj]
  have hlm : len8 ≤ maxLen := by
    rcases w8 with ⟨rfl, rfl, rfl, rfl⟩ | ⟨x, rfl, hlc, hcm, _⟩
    · exact Nat.zero_le _
    · omega
  clear w8 w0 w5 w6
  generalize z8.take len8 = zs at hrow
  go_enter Try.func3, Try.ntmps3
  go_wp2_with (first
    | (go_at_call 5; refine (bytes5_any _ _ _ _ _ _ _ _ _ _ _ _ w1 w2 w3 w4 w7 hlm).mono ?_; rintro e w' ⟨b, rfl, rfl⟩)
    | (go_at_call 6; refine (suci_any _ _ _ _ _ _ _ _ _).mono ?_; rintro e wa ⟨rfl, hba⟩))
  all_goals first | (go_ret; exact ⟨rfl, Below.refl _ _⟩) | skip
  have hl6 : len8 ≤ 65536 := by omega
  refine (inClear_any _ _ _ _ _ _ _ _ _ _ _ zs _ hl6 (hrow.below (hba.alloc hba.size _))).mono ?_
  rintro e wb ⟨got, rfl, hgot, hbb⟩
  have hrb : Row wb a8 len8 zs := (hrow.below (hba.alloc hba.size _)).below hbb
  have hen : Below w.heap.size w wb := (hba.alloc hba.size _).trans (hbb.mono (by have := hba.size; simp; omega))
  have HG : Hid (got.toList = Plain.clear a0 zs) := hgot
  clear hgot hbb hba hrow hlm w1 w2 w3 w4 w7
  by_cases ha : a0 = 0
  · subst ha
    have zw := clear_sizes (zs := zs) (s := got) hrb.byte HG.out
    rw [hrb.len_eq] at zw
    have q3 : 2 * (len8 : Int) - 1 ≤ (got.size : Int) := by
      cases ho : Plain.odd zs
      · have := zw.2.1 ho; omega
      · have := zw.1 ho; omega
    have q4 : (got.size : Int) ≤ 2 * (len8 : Int) := by omega
    cases ho : Plain.odd zs
    · have hne : ((got.size : Int) != 2 * (len8 : Int)) = false := by have := zw.2.1 ho; rw [bne_eq_false_iff_eq]; omega
      clear zw
      go_wp2_with (go_at_call 8; refine (odd_any _ _ _ zs _ hl6 hrb).mono ?_; rintro e we ⟨rfl, rfl⟩)
      go_loop [23] (fun i => ∃ k : Nat, k ≤ len8 ∧ i = .int .i64 k) (fun i => len8 - (intOf i).toNat)
      case atStart => exact ⟨0, Nat.zero_le _, rfl⟩
      case round =>
        obtain ⟨k, hk, rfl⟩ := hrel
        by_cases hlt : k < len8
        · obtain ⟨b, off, rfl, hbl, hcell⟩ := hrb.at_ (by omega)
          have hkz : k < zs.length := by have := hrb.len_eq; omega
          have hcx := hcell k hlt
          have hgd : zs.getD k 0 = zs[k] := by simp [List.getD, hkz]
          rw [hgd] at hcx
          have hby := hrb.byte _ (List.getElem_mem hkz)
          have dlo := Plain.clear_lo zs hrb.byte k hkz
          have dhi := Plain.clear_hi zs k hkz
          have dend := Plain.clear_end zs hrb.byte k hkz
          rw [← HG.out, ← size_toList] at dhi
          rw [← HG.out, ← size_toList] at dend
          rw [← HG.out] at dlo
          clear hcell hgd
          generalize zs[k] = c at hcx hby dlo dhi dend
          obtain ⟨y0, y1⟩ := hby
          have hsz : 2 * k < got.size := by omega
          have n1 := dig_ok got (2 * k) _ hsz dlo (by omega) (c % 16) (by omega)
          have N1 : Hid _ := n1
          by_cases h2 : 2 * k + 1 < got.size
          · have h2' : 2 * (k : Int) + 1 < (got.size : Int) := by omega
            have n2 := dig_ok got (2 * k + 1) _ h2 (dhi h2) (by omega) (c / 16) (by omega)
            have N2 : Hid _ := n2
            have hor : (bits BinOp.or IntKind.u8 (c % 16) (c / 16 * 16) != c) = false := by rw [or_back c y0 y1]; simp
            clear n1 n2 dlo dhi dend
            go_wp2_with fail
            refine (nib_any _ (c % 16) _ N1.out).mono ?_
            rintro e w' ⟨rfl, rfl⟩
            go_wp2_with fail
            refine (nib_any _ (c / 16) _ N2.out).mono ?_
            rintro e w' ⟨rfl, rfl⟩
            go_wp2
            go_round
            case rel => exact ⟨k + 1, by omega, by go_num⟩
            case measure => simp [intOf]; omega
          · exfalso; rw [bne_eq_false_iff_eq] at hne; omega
        · go_wp2
          go_ret
          exact ⟨rfl, hen⟩
    · have hp := Plain.odd_pos ho
      rw [hrb.len_eq] at hp
      have hne : ((got.size : Int) != 2 * (len8 : Int) - 1) = false := by have := zw.1 ho; rw [bne_eq_false_iff_eq]; omega
      clear zw
      go_wp2_with (go_at_call 8; refine (odd_any _ _ _ zs _ hl6 hrb).mono ?_; rintro e we ⟨rfl, rfl⟩)
      go_loop [23] (fun i => ∃ k : Nat, k ≤ len8 ∧ i = .int .i64 k) (fun i => len8 - (intOf i).toNat)
      case atStart => exact ⟨0, Nat.zero_le _, rfl⟩
      case round =>
        obtain ⟨k, hk, rfl⟩ := hrel
        by_cases hlt : k < len8
        · obtain ⟨b, off, rfl, hbl, hcell⟩ := hrb.at_ (by omega)
          have hkz : k < zs.length := by have := hrb.len_eq; omega
          have hcx := hcell k hlt
          have hgd : zs.getD k 0 = zs[k] := by simp [List.getD, hkz]
          rw [hgd] at hcx
          have hby := hrb.byte _ (List.getElem_mem hkz)
          have dlo := Plain.clear_lo zs hrb.byte k hkz
          have dhi := Plain.clear_hi zs k hkz
          have dend := Plain.clear_end zs hrb.byte k hkz
          rw [← HG.out, ← size_toList] at dhi
          rw [← HG.out, ← size_toList] at dend
          rw [← HG.out] at dlo
          clear hcell hgd
          generalize zs[k] = c at hcx hby dlo dhi dend
          obtain ⟨y0, y1⟩ := hby
          have hsz : 2 * k < got.size := by omega
          have n1 := dig_ok got (2 * k) _ hsz dlo (by omega) (c % 16) (by omega)
          have N1 : Hid _ := n1
          by_cases h2 : 2 * k + 1 < got.size
          · have h2' : 2 * (k : Int) + 1 < (got.size : Int) := by omega
            have n2 := dig_ok got (2 * k + 1) _ h2 (dhi h2) (by omega) (c / 16) (by omega)
            have N2 : Hid _ := n2
            have hor : (bits BinOp.or IntKind.u8 (c % 16) (c / 16 * 16) != c) = false := by rw [or_back c y0 y1]; simp
            clear n1 n2 dlo dhi dend
            go_wp2_with fail
            refine (nib_any _ (c % 16) _ N1.out).mono ?_
            rintro e w' ⟨rfl, rfl⟩
            go_wp2_with fail
            refine (nib_any _ (c / 16) _ N2.out).mono ?_
            rintro e w' ⟨rfl, rfl⟩
            go_wp2
            go_round
            case rel => exact ⟨k + 1, by omega, by go_num⟩
            case measure => simp [intOf]; omega
          · have h2' : ¬ 2 * (k : Int) + 1 < (got.size : Int) := by omega
            have hc15 : c / 16 = 15 := by have := dend h2; omega
            have hor : (bits BinOp.or IntKind.u8 (c % 16) 240 != c) = false := by
              have := or_back c y0 y1
              rw [hc15] at this
              rw [show (240 : Int) = 15 * 16 from rfl, this]; simp
            clear n1 dlo dhi dend hc15
            go_wp2_with fail
            refine (nib_any _ (c % 16) _ N1.out).mono ?_
            rintro e w' ⟨rfl, rfl⟩
            go_wp2
            go_round
            case rel => exact ⟨k + 1, by omega, by go_num⟩
            case measure => simp [intOf]; omega
        · go_wp2
          go_ret
          exact ⟨rfl, hen⟩
  · have han : (a0 != 0) = true := bne_iff_ne.2 ha
    have HE : Hid ((got.toList == (strOfNums zs).toList) = true) := by
      show _ = _
      rw [HG.out, strOf_toList]; unfold Plain.clear; rw [if_neg ha]; simp
    have hcv := hrb.conv
    generalize strOfNums zs = sz at HE hcv
    clear HG hrb
    go_wp2
    go_ret
    exact ⟨by show Ending.returned (Value.bool (got.toList == sz.toList)) = _; rw [HE.out], hen⟩
end Go.Proofs.Qxb6617205a.fnInClearDecodesBack
