/-
  Seat b6617205a: the walk of 'FnInClearCutAnywhere' (function 4), out of its callees' contracts.
-/
import Derived.Test.Qxb6617205aSmall
import Derived.Deep.RegionWith
import Derived.WalkKit
import Derived.ProofKit
import Derived.OpenShut
import Derived.ShutString
import Derived.ChangeOld
import Derived.Below
namespace Go.Proofs.Qxb6617205a.fnInClearCutAnywhere
open Go.ChangeShapes Go.WideShapes Go.ChangeAt Go.RowKit
open Go.ChangeMaps (open_string shut_string)
set_option linter.unusedVariables false

/-- WHAT THE WALK IS TOLD OF A SLICE OF INTEGERS THAT CAME IN: it is nil; or it leads to a row of 'cap' cells, the numbers 'zs' (the first 'len' are its elements, the rest its spare room), each fitting its kind. -/
def IsRow (k : IntKind) (w : World) (a : Option Addr) (len cap : Nat) (zs : List Int) : Prop :=
  (a = none ∧ len = 0 ∧ cap = 0 ∧ zs = []) ∨
  ∃ x, a = some x ∧ len ≤ cap ∧ cap ≤ maxLen ∧ zs.length = cap ∧ (∀ i, i < zs.length → w.cell? (x.add i) = some (.int k (zs.getD i 0))) ∧ ∀ n ∈ zs, (Lit.int k n).wf = true

/-! ### STEP 1: THE WALK: the Go text returns true, AND WRITES NOTHING THAT WAS THERE: 'Below w.heap.size w w'' (Derived/Below.lean: '.refl', '.alloc', '.drew', '.setCell' at a new block, '.trans'). Open each 'IsRow' by 'rcases' AHEAD of 'go_enter'; part every test ahead of the walk. -/
theorem cat_toList (a b : ByteArray) : (a ++ b).toList = a.toList ++ b.toList := by
  rw [ByteArray.toList_eq, ByteArray.toList_eq, ByteArray.toList_eq, ByteArray.data_append, Array.toList_append]

theorem clear_sizes {zs : List Int} {s : ByteArray} (hz : ∀ z ∈ zs, 0 ≤ z ∧ z ≤ 255) (h : s.toList = Plain.clear 0 zs) : (Plain.odd zs = true → s.size = 2 * zs.length - 1) ∧ (Plain.odd zs = false → s.size = 2 * zs.length) ∧ s.size ≤ 2 * zs.length := by
  have e := Plain.clear_length zs hz
  rw [← h, ← size_toList] at e
  refine ⟨fun ho => by rw [ho] at e; exact e, fun ho => by rw [ho] at e; exact e, ?_⟩
  split at e <;> omega

set_option maxHeartbeats 4000000 in
theorem walk (a0 : Int) (a1 : ByteArray) (a2 : ByteArray) (a3 : ByteArray) (a4 : ByteArray) (a5 : Int) (a6 : Int) (a7 : ByteArray) (a8 : Option Addr) (len8 cap8 : Nat) (z8 : List Int) (a9 : Int) (w : World) (w0 : (Lit.int .i64 a0).wf = true) (w1 : a1.size ≤ maxLen) (w2 : a2.size ≤ maxLen) (w3 : a3.size ≤ maxLen) (w4 : a4.size ≤ maxLen) (w5 : (Lit.int .i64 a5).wf = true) (w6 : (Lit.int .i64 a6).wf = true) (w7 : a7.size ≤ maxLen) (w8 : IsRow .u8 w a8 len8 cap8 z8) (w9 : (Lit.int .i64 a9).wf = true) :
    Calls Try.prog 4 #[.int .i64 a0, .string a1, .string a2, .string a3, .string a4, .int .i64 a5, .int .i64 a6, .string a7, .slice a8 len8 cap8, .int .i64 a9] w fun e w' => e = .returned (.bool true) ∧ Below w.heap.size w w' := by
  have hrow : Row w a8 len8 (z8.take len8) := by
    rcases w8 with ⟨rfl, rfl, rfl, rfl⟩ | ⟨x, rfl, hlc, hcm, hzl, hcell, hwf⟩
    · exact ⟨rfl, by simp, fun h => by omega⟩
    · refine ⟨by simp; omega, fun z hz => ?_, fun h0 => ?_⟩
      · exact bounds_u8 (hwf z (List.mem_of_mem_take hz))
      · obtain ⟨b, off, rfl, hc⟩ := ints_at hcell (by omega)
        refine ⟨b, off, rfl, World.block_lt_of_cell? _ _ (hc 0 (by omega)), fun j hj => ?_⟩
        rw [hc j (by omega)]
        simp [List.getD, hj]
  have hlm : len8 ≤ maxLen := by
    rcases w8 with ⟨rfl, rfl, rfl, rfl⟩ | ⟨x, rfl, hlc, hcm, _⟩
    · exact Nat.zero_le _
    · omega
  have hlc : len8 ≤ cap8 := by
    rcases w8 with ⟨rfl, rfl, rfl, rfl⟩ | ⟨x, rfl, hlc, hcm, _⟩
    · exact Nat.zero_le _
    · exact hlc
  have hcm : cap8 ≤ maxLen := by
    rcases w8 with ⟨rfl, rfl, rfl, rfl⟩ | ⟨x, rfl, hlc, hcm, _⟩
    · exact Nat.zero_le _
    · exact hcm
  unfold maxLen at hcm
  clear w8 w0 w5 w6
  generalize z8.take len8 = zs at hrow
  by_cases hk0 : 0 ≤ a9
  · obtain ⟨k, rfl⟩ := Int.eq_ofNat_of_zero_le hk0
    by_cases hkl : k ≤ len8
    · have hkc : (k : Int) ≤ (cap8 : Int) := by omega
      have hkL : (k : Int) ≤ (len8 : Int) := by omega
      go_enter Try.func4, Try.ntmps4
      go_wp2_with (first
        | (go_at_call 10; refine (bytes10_any _ _ _ _ _ _ _ _ _ _ _ _ _ w1 w2 w3 w4 w7 hlm).mono ?_; rintro e w' ⟨b, rfl, rfl⟩)
        | (go_at_call 6; refine (suci_any _ _ _ _ _ _ _ _ _).mono ?_; rintro e wa ⟨rfl, hba⟩))
      all_goals first | (go_ret; exact ⟨rfl, Below.refl _ _⟩) | skip
      have hl6 : len8 ≤ 65536 := by omega
      refine (inClear_any _ _ _ _ _ _ _ _ _ _ _ zs _ hl6 (hrow.below (hba.alloc hba.size _))).mono ?_
      rintro e wb ⟨whole, rfl, hwhole, hbb⟩
      have HW : Hid (whole.toList = Plain.clear a0 zs) := hwhole
      clear hwhole
      have hcells : ∀ j u, (#[Value.int .i64 a0, Value.string a1, Value.string a2, Value.string a3, Value.string a4, Value.int .i64 a5, Value.int .i64 a6, Value.string a7] : Array Value)[j]? = some u → wb.cell? ⟨wa.heap.size, j, none⟩ = some u := fun j u hj => by
        rw [hbb.cell (by simp)]
        simpa using hj
      have c0 := hcells 0 _ rfl
      have c1 := hcells 1 _ rfl
      have c2 := hcells 2 _ rfl
      have c3 := hcells 3 _ rfl
      have c4 := hcells 4 _ rfl
      have c5 := hcells 5 _ rfl
      have c6 := hcells 6 _ rfl
      have c7 := hcells 7 _ rfl
      have HC : Hid _ := hcells
      clear hcells
      go_wp2_with fail
      have hrb : Row wb.drew a8 len8 zs := (hrow.below (hba.alloc hba.size _)).below hbb.drew
      go_region_with (go_at_call 7; refine (inClear_any _ _ _ _ _ _ _ _ _ _ _ (zs.take k) _ (by omega) (hrb.take hkl)).mono ?_; rintro e wc ⟨left, rfl, hleft, hbc⟩)
      have HL : Hid (left.toList = Plain.clear a0 (zs.take k)) := hleft
      clear hleft c0 c1 c2 c3 c4 c5 c6 c7
      have hcells : ∀ j u, (#[Value.int .i64 a0, Value.string a1, Value.string a2, Value.string a3, Value.string a4, Value.int .i64 a5, Value.int .i64 a6, Value.string a7] : Array Value)[j]? = some u → wc.cell? ⟨wa.heap.size, j, none⟩ = some u := fun j u hj => by
        rw [hbc.cell (by have := hbb.size; simp at this ⊢; omega)]
        exact HC.out j u hj
      clear HC
      have c0 := hcells 0 _ rfl
      have c1 := hcells 1 _ rfl
      have c2 := hcells 2 _ rfl
      have c3 := hcells 3 _ rfl
      have c4 := hcells 4 _ rfl
      have c5 := hcells 5 _ rfl
      have c6 := hcells 6 _ rfl
      have c7 := hcells 7 _ rfl
      clear hcells
      have hrc : Row wc.drew a8 len8 zs := hrb.below hbc.drew
      clear hrb
      go_wp2_with fail
      have hfin : ∀ wd : World, Below wc.heap.size wc wd → Below w.heap.size w wd := fun wd hd => by
        have s1 := hba.size
        have s2 := hbb.size
        have s3 := hbc.size
        simp at s2 s3
        have b1 : Below w.heap.size w wb := (hba.alloc hba.size _).trans (hbb.mono (by simp; omega))
        have b2 : Below w.heap.size w wc := b1.drew.trans (hbc.mono (by simp; omega))
        exact b2.trans (hd.mono (by omega))
      obtain ⟨ad, hsl, hrd⟩ : ∃ ad, (∀ wx : World, (Instr.sliceAt 22 (.slice a8 len8 cap8) (some (.int .i64 (k : Int))) none none).run Try.prog wx = .ok (.slice ad (len8 - k) (cap8 - k)) wx) ∧ Row wc.drew ad (len8 - k) (zs.drop k) := by
        refine ⟨if cap8 = k then a8 else a8.map (fun x => x.add (k * 1)), fun wx => ?_, ?_⟩
        · rw [run_sliceAt_slice (P := Try.prog) _ _ _ _ _ _ Try.underlying22, run_slice_l (P := Try.prog) _ _ _ _ _ Try.underlying22 .i64 _ hk0 hkL]
          simp [sliced, go_sem]
        · split
          · have : k = len8 := by omega
            subst this
            have := hrc.len_eq
            rw [Nat.sub_self, List.drop_of_length_le (by omega)]
            exact Row.none _
          · rw [Nat.mul_one]
            exact hrc.drop
      go_region_with (go_at_call 7; refine (inClear_any _ _ _ _ _ _ _ _ _ _ _ (zs.drop k) _ (by omega) hrd).mono ?_; rintro e wd ⟨right, rfl, hright, hbd⟩)
      clear hsl hrd c0 c1 c2 c3 c4 c5 c6 c7
      have hen := hfin wd ((Below.refl _ _).drew.trans (hbd.mono (by simp)))
      have hrd : Row wd a8 len8 zs := hrc.below hbd
      clear hfin hrc hbd hbc hbb hba hrow hk0 hkc hkL w9 hcm hlc hlm w1 w2 w3 w4 w7
      have hll := hrd.len_eq
      have hby := hrd.byte
      by_cases ha : a0 = 0
      · subst ha
        have zw := clear_sizes (zs := zs) (s := whole) hby HW.out
        have zl := clear_sizes (zs := zs.take k) (s := left) (fun z hz => hby z (List.mem_of_mem_take hz)) HL.out
        have zr := clear_sizes (zs := zs.drop k) (s := right) (fun z hz => hby z (List.mem_of_mem_drop hz)) hright
        rw [hll] at zw
        rw [List.length_take, Nat.min_eq_left (by omega)] at zl
        rw [List.length_drop, hll] at zr
        have zr' : right.size ≤ 131072 := by omega
        have zl' : left.size ≤ 131072 := by omega
        by_cases hkn : k = len8
        · subst hkn
          have hr0 : right.toList = [] := by rw [hright, List.drop_of_length_le (by omega)]; rfl
          have HE : Hid ((whole.toList == left.toList) = true) := by
            show _ = _
            rw [HW.out, HL.out, List.take_of_length_le (by omega)]; simp
          clear zr hright
          cases ho : Plain.odd zs
          · have q1 : (whole.size : Int) ≤ 2 * (k : Int) := by have := zw.2.1 ho; omega
            have q2 : 2 * (k : Int) ≤ (whole.size : Int) := by have := zw.2.1 ho; omega
            clear zw zl
            go_wp2_with (go_at_call 8; refine (odd_any _ _ _ zs _ hl6 hrd).mono ?_; rintro e we ⟨rfl, rfl⟩)
            go_ret
            exact ⟨by show Ending.returned (Value.bool (whole.toList == left.toList)) = _; rw [HE.out], hen⟩
          · have hp := Plain.odd_pos ho
            have q1 : (whole.size : Int) ≤ 2 * (k : Int) - 1 := by have := zw.1 ho; omega
            have q2 : 2 * (k : Int) - 1 ≤ (whole.size : Int) := by have := zw.1 ho; omega
            clear zw zl
            go_wp2_with (go_at_call 8; refine (odd_any _ _ _ zs _ hl6 hrd).mono ?_; rintro e we ⟨rfl, rfl⟩)
            go_ret
            exact ⟨by show Ending.returned (Value.bool (whole.toList == left.toList)) = _; rw [HE.out], hen⟩
        · have hklt : k < len8 := by omega
          have hcut := Plain.cut_back (zs.take k) (zs.drop k) (by intro h0; have := congrArg List.length h0; simp at this; omega)
          rw [List.take_append_drop, ← HW.out, ← HL.out, ← hright, ← size_toList] at hcut
          have HCut : Hid _ := hcut
          clear hcut zr hright HW HL
          cases hol : Plain.odd (zs.take k)
          · have p1 : (left.size : Int) ≤ 2 * (k : Int) := by have := zl.2.1 hol; omega
            have p2 : 2 * (k : Int) ≤ (left.size : Int) := by have := zl.2.1 hol; omega
            have HE : Hid ((whole.toList == (left ++ right).toList) = true) := by
              show _ = _
              rw [cat_toList, HCut.out, if_neg (by omega)]; simp
            clear hol
            cases ho : Plain.odd zs
            · have q1 : (whole.size : Int) ≤ 2 * (len8 : Int) := by have := zw.2.1 ho; omega
              have q2 : 2 * (len8 : Int) ≤ (whole.size : Int) := by have := zw.2.1 ho; omega
              clear zw zl
              go_wp2_with (go_at_call 8; refine (odd_any _ _ _ zs _ hl6 hrd).mono ?_; rintro e we ⟨rfl, rfl⟩)
              go_ret
              exact ⟨by show Ending.returned (Value.bool (whole.toList == (left ++ right).toList)) = _; rw [HE.out], hen⟩
            · have q1 : (whole.size : Int) ≤ 2 * (len8 : Int) - 1 := by have := zw.1 ho; omega
              have q2 : 2 * (len8 : Int) - 1 ≤ (whole.size : Int) := by have := zw.1 ho; omega
              clear zw zl
              go_wp2_with (go_at_call 8; refine (odd_any _ _ _ zs _ hl6 hrd).mono ?_; rintro e we ⟨rfl, rfl⟩)
              go_ret
              exact ⟨by show Ending.returned (Value.bool (whole.toList == (left ++ right).toList)) = _; rw [HE.out], hen⟩
          · have hp := Plain.odd_pos hol
            rw [List.length_take, Nat.min_eq_left (by omega)] at hp
            have p1 : (left.size : Int) ≤ 2 * (k : Int) - 1 := by have := zl.1 hol; omega
            have p2 : 2 * (k : Int) - 1 ≤ (left.size : Int) := by have := zl.1 hol; omega
            have HE : Hid ((whole.toList == (left ++ ⟨#[102]⟩ ++ right).toList) = true) := by
              show _ = _
              rw [cat_toList, cat_toList, HCut.out, if_pos (by omega)]; simp [ByteArray.toList_eq]
            clear hol
            cases ho : Plain.odd zs
            · have q1 : (whole.size : Int) ≤ 2 * (len8 : Int) := by have := zw.2.1 ho; omega
              have q2 : 2 * (len8 : Int) ≤ (whole.size : Int) := by have := zw.2.1 ho; omega
              clear zw zl
              go_wp2_with (go_at_call 8; refine (odd_any _ _ _ zs _ hl6 hrd).mono ?_; rintro e we ⟨rfl, rfl⟩)
              go_ret
              exact ⟨by show Ending.returned (Value.bool (whole.toList == (left ++ ⟨#[102]⟩ ++ right).toList)) = _; rw [HE.out], hen⟩
            · have q1 : (whole.size : Int) ≤ 2 * (len8 : Int) - 1 := by have := zw.1 ho; omega
              have q2 : 2 * (len8 : Int) - 1 ≤ (whole.size : Int) := by have := zw.1 ho; omega
              clear zw zl
              go_wp2_with (go_at_call 8; refine (odd_any _ _ _ zs _ hl6 hrd).mono ?_; rintro e we ⟨rfl, rfl⟩)
              go_ret
              exact ⟨by show Ending.returned (Value.bool (whole.toList == (left ++ ⟨#[102]⟩ ++ right).toList)) = _; rw [HE.out], hen⟩
      · have han : (a0 != 0) = true := bne_iff_ne.2 ha
        have ew : whole.toList = Plain.octs zs := by rw [HW.out]; unfold Plain.clear; rw [if_neg ha]
        have el : left.toList = Plain.octs (zs.take k) := by rw [HL.out]; unfold Plain.clear; rw [if_neg ha]
        have er : right.toList = Plain.octs (zs.drop k) := by rw [hright]; unfold Plain.clear; rw [if_neg ha]
        have HE : Hid ((whole.toList == (left ++ right).toList) = true) := by
          show _ = _
          rw [cat_toList, ew, el, er, ← Plain.octs_append, List.take_append_drop]; simp
        have q1 : (whole.size : Int) ≤ (len8 : Int) := by rw [size_toList, ew]; simp [Plain.octs]; omega
        have q2 : (len8 : Int) ≤ (whole.size : Int) := by rw [size_toList, ew]; simp [Plain.octs]; omega
        have zr' : right.size ≤ 131072 := by rw [size_toList, er]; simp [Plain.octs]; omega
        have zl' : left.size ≤ 131072 := by rw [size_toList, el]; simp [Plain.octs]; omega
        clear ew el er hright HW HL hby hrd
        go_wp2
        go_ret
        exact ⟨by show Ending.returned (Value.bool (whole.toList == (left ++ right).toList)) = _; rw [HE.out], hen⟩
    · go_enter Try.func4, Try.ntmps4
      go_wp2_with (first
        | (go_at_call 10; refine (bytes10_any _ _ _ _ _ _ _ _ _ _ _ _ _ w1 w2 w3 w4 w7 hlm).mono ?_; rintro e w' ⟨b, rfl, rfl⟩))
      all_goals (go_ret; exact ⟨rfl, Below.refl _ _⟩)
  · go_enter Try.func4, Try.ntmps4
    go_wp2_with (first
      | (go_at_call 10; refine (bytes10_any _ _ _ _ _ _ _ _ _ _ _ _ _ w1 w2 w3 w4 w7 hlm).mono ?_; rintro e w' ⟨b, rfl, rfl⟩))
    all_goals (go_ret; exact ⟨rfl, Below.refl _ _⟩)
end Go.Proofs.Qxb6617205a.fnInClearCutAnywhere
