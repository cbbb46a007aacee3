import Derived.Test.Qxb6617205aTrim
import Derived.Deep.AppendLies
import Derived.Deep.RegionLaw
namespace Go.Proofs.Qxb6617205a
open Go.RowKit

theorem info5 : (Try.prog.info? 5).map (fun i => (i.zero, i.size, i.bytes)) = some (some (.int .u8 0), 1, 1) := by kernel_rfl

/-- What is known of a slice of bytes: its first 'len' cells hold the numbers zs. -/
structure Row (w : World) (a : Option Addr) (len : Nat) (zs : List Int) : Prop where
  len_eq : zs.length = len
  byte : ∀ z ∈ zs, 0 ≤ z ∧ z ≤ 255
  at_ : 0 < len → ∃ b off, a = some ⟨b, off, none⟩ ∧ b < w.heap.size ∧ ∀ j, j < len → w.cell? ⟨b, off + j, none⟩ = some (.int .u8 (zs.getD j 0))

theorem Row.below {w w' : World} {a : Option Addr} {len : Nat} {zs : List Int} (h : Row w a len zs) (hb : Below w.heap.size w w') : Row w' a len zs :=
  ⟨h.len_eq, h.byte, fun h0 => by
    obtain ⟨b, off, e, hl, hc⟩ := h.at_ h0
    exact ⟨b, off, e, Nat.lt_of_lt_of_le hl hb.size, fun j hj => (hb.cell (by exact hl)).trans (hc j hj)⟩⟩

theorem Row.take {w : World} {a : Option Addr} {len : Nat} {zs : List Int} (h : Row w a len zs) {k : Nat} (hk : k ≤ len) : Row w a k (zs.take k) :=
  ⟨by simp [h.len_eq, hk], fun z hz => h.byte z (List.mem_of_mem_take hz), fun h0 => by
    obtain ⟨b, off, e, hl, hc⟩ := h.at_ (by omega)
    exact ⟨b, off, e, hl, fun j hj => by rw [hc j (by omega)]; simp [List.getD, hj]⟩⟩

theorem Row.drop {w : World} {a : Option Addr} {len : Nat} {zs : List Int} (h : Row w a len zs) {k : Nat} : Row w (a.map fun x => x.add k) (len - k) (zs.drop k) :=
  ⟨by simp [h.len_eq], fun z hz => h.byte z (List.mem_of_mem_drop hz), fun h0 => by
    obtain ⟨b, off, e, hl, hc⟩ := h.at_ (by omega)
    refine ⟨b, off + k, by rw [e]; simp [Addr.add], hl, fun j hj => ?_⟩
    rw [Nat.add_assoc, hc (k + j) (by omega)]
    simp [List.getD]⟩

theorem Row.none {w : World} (a : Option Addr) : Row w a 0 [] := ⟨rfl, by simp, fun h => by omega⟩

theorem strOf_toList (zs : List Int) : (strOfNums zs).toList = Plain.octs zs := by
  rw [ByteArray.toList_eq]; rfl

theorem Row.conv {w : World} {a : Option Addr} {len : Nat} {zs : List Int} (h : Row w a len zs) (cap : Nat) : (convert 22 9 (.slice a len cap)).run Try.prog w = .ok (.string (strOfNums zs)) w := by
  rcases Nat.eq_zero_or_pos len with h0 | h0
  · subst h0
    obtain rfl : zs = [] := List.eq_nil_of_length_eq_zero h.len_eq
    cases a with
    | none => exact run_convert_bytes_nil w 22 5 Try.underlying22 Try.underlying5 0 cap 9 Try.underlying9
    | some x =>
      rw [run_convert_bytes_string w 22 9 5 _ 0 cap Try.underlying22 Try.underlying5 Try.underlying9]
      rw [run_bytesToString w x 0 cap [] (run_loadCells_list (P := Try.prog) w x [] (by simp))]
      rfl
  · obtain ⟨b, off, rfl, hl, hc⟩ := h.at_ h0
    exact run_convert_bytes_arg w 22 5 Try.underlying22 Try.underlying5 b off len cap zs h.len_eq hc 9 Try.underlying9

set_option maxHeartbeats 400000 in
theorem clear_other (t : Int) (a1 a2 a3 a4 : ByteArray) (a5 a6 : Int) (a7 : ByteArray) (a : Option Addr) (len cap : Nat) (zs : List Int) (w : World) (ht : (t != 0) = true) (hr : Row w a len zs) :
    Calls Try.prog 7 #[.agg #[.int .i64 t, .string a1, .string a2, .string a3, .string a4, .int .i64 a5, .int .i64 a6, .string a7], .slice a len cap] w
      fun e w' => e = .returned (.string (strOfNums zs)) ∧ Below w.heap.size w w' := by
  have hc : ∀ o, (convert 22 9 (.slice a len cap)).run Try.prog (w.alloc o) = .ok (.string (strOfNums zs)) (w.alloc o) := fun o => (hr.below ((Below.refl _ _).alloc (Nat.le_refl _) _)).conv cap
  go_enter Try.func7, Try.ntmps7
  go_wp2
  go_ret
  exact ⟨rfl, (Below.refl _ _).alloc (Nat.le_refl _) _⟩

def digsI (zs : List Int) : List Int := zs.flatMap fun z => [((Plain.hexd (z.toNat % 16)).toNat : Int), ((Plain.hexd (z.toNat / 16)).toNat : Int)]

theorem nib (n : Nat) (h : n < (⟨#[48, 49, 50, 51, 52, 53, 54, 55, 56, 57, 97, 98, 99, 100, 101, 102]⟩ : ByteArray).size) : (⟨#[48, 49, 50, 51, 52, 53, 54, 55, 56, 57, 97, 98, 99, 100, 101, 102]⟩ : ByteArray)[n]'h = Plain.hexd n := by
  have : ∀ m : Fin 16, (⟨#[48, 49, 50, 51, 52, 53, 54, 55, 56, 57, 97, 98, 99, 100, 101, 102]⟩ : ByteArray)[m.val]'m.isLt = Plain.hexd m.val := by decide
  exact this ⟨n, h⟩

theorem digsI_snoc {zs : List Int} {k : Nat} (hk : k < zs.length) : digsI (zs.take (k + 1)) = digsI (zs.take k) ++ [((Plain.hexd ((zs.getD k 0).toNat % 16)).toNat : Int), ((Plain.hexd ((zs.getD k 0).toNat / 16)).toNat : Int)] := by
  have e : zs.getD k 0 = zs[k] := by simp [List.getD, hk]
  rw [List.take_succ_eq_append_getElem hk, e]
  unfold digsI
  rw [List.flatMap_append]
  rfl

theorem own_conv {wr : World} {B n : Nat} {v : Value} {xs : List Int} (h : wr.ownsRow B 5 1 v n (xs.map (Value.int .u8))) : (convert 22 9 v).run Try.prog wr = .ok (.string (strOfNums xs)) wr := by
  have hl : xs.length = n := by have := h.1; simpa using this
  rcases h.2 with ⟨rfl, rfl⟩ | ⟨g, cap, cur, rfl, _⟩
  · obtain rfl : xs = [] := List.eq_nil_of_length_eq_zero hl
    exact run_convert_bytes_nil wr 22 5 Try.underlying22 Try.underlying5 0 0 9 Try.underlying9
  · refine run_convert_bytes_arg wr 22 5 Try.underlying22 Try.underlying5 g 0 n cap xs hl (fun i hi => ?_) 9 Try.underlying9
    have := h.cellAt i (by omega)
    rw [Nat.zero_add, this]
    simp [List.getD, show i < xs.length by omega]

theorem digsI_octs (zs : List Int) : Plain.octs (digsI zs) = Plain.digs zs := by
  induction zs with
  | nil => rfl
  | cons z zs ih =>
    have e : digsI (z :: zs) = [((Plain.hexd (z.toNat % 16)).toNat : Int), ((Plain.hexd (z.toNat / 16)).toNat : Int)] ++ digsI zs := rfl
    have e2 : Plain.digs (z :: zs) = Plain.two z ++ Plain.digs zs := rfl
    rw [e, Plain.octs_append, ih, e2]
    simp [Plain.octs, Plain.two]

theorem digsI_length (zs : List Int) : (digsI zs).length = 2 * zs.length := by
  have := congrArg List.length (digsI_octs zs)
  simpa [Plain.octs, Plain.digs_length] using this

theorem step_digs {w1 : World} {B k : Nat} {zs : List Int} {v : Value} {c : Int} (hk : k < zs.length) (hc : zs.getD k 0 = c) (h1 : 0 ≤ c) (n1 n2 : Int) (e1 : n1 = ((Plain.hexd (c % 16).toNat).toNat : Int)) (e2 : n2 = ((Plain.hexd (c / 16).toNat).toNat : Int))
    (h : w1.ownsRow B 5 1 v (2 * k + 2) ((digsI (zs.take k)).map (Value.int .u8) ++ #[Value.int .u8 n1, Value.int .u8 n2].toList)) :
    w1.ownsRow B 5 1 v (2 * (k + 1)) ((digsI (zs.take (k + 1))).map (Value.int .u8)) := by
  rw [digsI_snoc hk, hc]
  have a1 : (c % 16).toNat = c.toNat % 16 := by omega
  have a2 : (c / 16).toNat = c.toNat / 16 := by omega
  subst e1 e2
  rw [a1, a2] at h
  simpa [Nat.mul_add] using h

set_option maxHeartbeats 1000000 in
theorem clear_imsi (a1 a2 a3 a4 : ByteArray) (a5 a6 : Int) (a7 : ByteArray) (a : Option Addr) (len cap : Nat) (zs : List Int) (w : World) (hlen : len ≤ 65536) (hr : Row w a len zs) :
    Calls Try.prog 7 #[.agg #[.int .i64 0, .string a1, .string a2, .string a3, .string a4, .int .i64 a5, .int .i64 a6, .string a7], .slice a len cap] w
      fun e w' => ∃ r : ByteArray, e = .returned (.string r) ∧ r.toList = Plain.trimF (Plain.digs zs) ∧ Below w.heap.size w w' := by
  obtain ⟨i0, hi, hz0, hz1, hz2⟩ := info_parts info5
  go_enter Try.func7, Try.ntmps7
  go_wp2_with (at_make; refine wpList_make_own _ rfl _ _ 22 rfl (w.heap.size + 1) 5 i0 (.int .u8 0) 1 Try.underlying22 hi hz0 hz1 _ _ _ (2 * len) rfl rfl (by omega) ?b2 ?b3 (by simp) ?_)
  case b2 => rw [hz2]; omega
  case b3 => unfold maxLen; omega
  intro w0 hown0 hgrow0
  go_wp2
  go_loopw [5, 19] (fun d i wr => ∃ k : Nat, k ≤ len ∧ i = .int .i64 k ∧ wr.ownsRow (w.heap.size + 1) 5 1 d (2 * k) ((digsI (zs.take k)).map (Value.int .u8)) ∧ Below w.heap.size w wr ∧ w.heap.size + 1 ≤ wr.heap.size)
    (fun _ i _ => len - (intOf i).toNat)
  case atStart => exact ⟨0, Nat.zero_le _, rfl, hown0, ((Below.refl _ _).alloc (Nat.le_refl _) _).grown hgrow0 (by simp) (fun k h => by cases h), by have := hgrow0.size; simpa using this⟩
  case round =>
    obtain ⟨k, hk, rfl, hown, hnx, hws⟩ := hrel
    by_cases hlt : k < len
    · obtain ⟨b, off, rfl, hbl, hcell⟩ := hr.at_ (by omega)
      have hcx : wr.cell? ⟨b, off + k, none⟩ = some (.int .u8 (zs.getD k 0)) := (hnx.cell (by exact hbl)).trans (hcell k hlt)
      have hby : 0 ≤ zs.getD k 0 ∧ zs.getD k 0 ≤ 255 := by
        have := hr.len_eq
        have hkl : k < zs.length := by omega
        have : zs.getD k 0 = zs[k] := by simp [List.getD, hkl]
        rw [this]
        exact hr.byte _ (List.getElem_mem _)
      obtain ⟨h1, h2⟩ := hby
      generalize hcn : zs.getD k 0 = c at hcx h1 h2
      have HC : Hid (zs.getD k 0 = c) := hcn
      clear hcn
      have hB : bits BinOp.and IntKind.u8 c 15 = c % 16 := by
        rw [u8_and c 15 h1 (by omega) (by omega) (by omega)]
        show ((c.toNat &&& 15 : Nat) : Int) = _
        rw [nat_mask4]; omega
      have m0 : 0 ≤ c % 16 := by omega
      have m1 : c % 16 < 16 := by omega
      have d0 : 0 ≤ c / 16 := by omega
      have d1 : c / 16 < 16 := by omega
      go_wp2
      go_region_law ((refine step_append_lies _ (by rfl) (.tmp 23) (.tmp 30) 22 (by rfl) (w.heap.size + 1) 5 i0 (.int .u8 0) 1 1 Try.underlying22 hi hz0 hz1 hz2 rfl (by decide) _ (2 * k) _ (by rfl) (hown.alloc _).drew ⟨wr.heap.size, 0, none⟩ 2 2 _ (by rfl) (by rfl) (World.news_of_block (heap_alloc_new wr _)) (by intro u hu; simp at hu; rcases hu with rfl | rfl <;> rfl) (by omega) (by unfold maxLen; omega) (by omega) (by simp; omega) _ rfl ?_; intro g cp w1 hown1 hgrow1 hat hlt1))
      all_goals
        go_wp2
        go_roundw
        case rel => exact ⟨k + 1, by omega, by go_num, step_digs (by have := hr.len_eq; omega) HC.out h1 _ _ (by rw [nib]) (by rw [nib]) hown1, (hnx.alloc (by omega) _).drew.grown hgrow1 (by simp; omega) (fun j hj => Nat.le_trans (Nat.le_succ _) (hown.lt j hj).1), by have := hgrow1.size; simp at this; omega⟩
        case measure => simp [intOf]; omega
    · have hkl : k = len := by omega
      subst hkl
      have hcv : (convert 22 9 u5).run Try.prog wr = .ok (.string (strOfNums (digsI zs))) wr := by
        have := own_conv hown
        rw [List.take_of_length_le (by have := hr.len_eq; omega)] at this
        exact this
      have hsz : (strOfNums (digsI zs)).size ≤ 1000000 := by
        rw [strOfNums_size, digsI_length]
        have := hr.len_eq
        omega
      have HT : Hid ((strOfNums (digsI zs)).toList = Plain.digs zs) := by
        show _ = _
        rw [strOf_toList, digsI_octs]
      generalize strOfNums (digsI zs) = sd at hcv hsz HT
      go_wp2_with (go_at_call 11; refine (trim_any _ _ hsz).mono ?_; rintro e w' ⟨r, rfl, hr2, rfl⟩)
      go_ret
      exact ⟨_, rfl, by rw [hr2, HT.out], hnx⟩
end Go.Proofs.Qxb6617205a
