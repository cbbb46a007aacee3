/-
  Seat b6616504a: names in memory; sets of names: the contracts of b1SetOf (7), b1Has (9), nameSet.has (12), hasOrStar (11), ZZhasOrStar (8), b1AddTextBytes (6), the bounds (5, 10).
-/
import Derived.Test.Qxb6616504aRows
import Derived.WalkKit
import Derived.ProofKit
import Derived.Below
import Derived.Maps.OwnSet
import Derived.Maps.OwnOps
namespace Go.Proofs.Qxb6616504a
open Go.RowKit Go.Maps Go.WideMaps Go.WideElems

theorem hide {p : Prop} (h : p) : Hid p := h

/-- The names, where the slice leads. -/
structure NRow (w : World) (a : Option Addr) (len : Nat) (ns : List ByteArray) : Prop where
  len_eq : ns.length = len
  small : ∀ s ∈ ns, s.size ≤ maxLen
  at_ : 0 < len → ∃ b off, a = some ⟨b, off, none⟩ ∧ b < w.heap.size ∧ ∀ j s, ns[j]? = some s → w.cell? ⟨b, off + j, none⟩ = some (.string s)

theorem NRow.below {w w' : World} {a : Option Addr} {len : Nat} {ns : List ByteArray} (h : NRow w a len ns) (hb : Below w.heap.size w w') : NRow w' a len ns :=
  ⟨h.len_eq, h.small, fun h0 => by
    obtain ⟨b, off, e, hl, hc⟩ := h.at_ h0
    exact ⟨b, off, e, Nat.lt_of_lt_of_le hl hb.size, fun j s hs => (hb.cell (by exact hl)).trans (hc j s hs)⟩⟩

theorem NRow.get {w : World} {a : Option Addr} {len : Nat} {ns : List ByteArray} (h : NRow w a len ns) {k : Nat} (hk : k < len) :
    ∃ b off s, a = some ⟨b, off, none⟩ ∧ ns[k]? = some s ∧ s.size ≤ maxLen ∧ w.cell? ⟨b, off + k, none⟩ = some (.string s) := by
  obtain ⟨b, off, e, _, hc⟩ := h.at_ (by omega)
  have hkl : k < ns.length := by have := h.len_eq; omega
  have hs : ns[k]? = some ns[k] := List.getElem?_eq_getElem hkl
  exact ⟨b, off, _, e, hs, h.small _ (List.getElem_mem hkl), hc k _ hs⟩

/-- Is the name listed? -/
def lists (ns : List ByteArray) (k : List UInt8) : Bool := ns.any fun s => s.toList == k

theorem lists_snoc (ns : List ByteArray) (s : ByteArray) (k : List UInt8) : lists (ns ++ [s]) k = (lists ns k || (s.toList == k)) := by simp [lists]

theorem take_snoc {ns : List ByteArray} {k : Nat} {s : ByteArray} (h : ns[k]? = some s) : ns.take (k + 1) = ns.take k ++ [s] := by
  obtain ⟨hk, e⟩ := List.getElem?_eq_some_iff.1 h
  rw [List.take_succ_eq_append_getElem hk, e]

theorem law9 : Keyed Try.prog 9 := string_keyed Try.underlying9
theorem zero27 (w : World) : (zeroValue 27).run Try.prog w = .ok (.agg #[]) w := by kernel_rfl
theorem make25 (n : Int) (w : World) : (Instr.makeMap 25 (some (.int .i64 n))).run Try.prog w = .ok (.map (some w.heap.size)) (w.alloc (.map #[] 0)) := by kernel_rfl

/-- A set of names in block b: which it holds is told by p. -/
structure IsSet (w : World) (b n : Nat) (p : List UInt8 → Bool) : Prop where
  own : ∃ D : DataW Unit, w.ownsMap Try.prog 9 unitElem b n D ∧ ∀ k, Maps.has D (.string k) = p k

theorem IsSet.below {w w' : World} {b n : Nat} {p : List UInt8 → Bool} (h : IsSet w b n p) (hb : Below w.heap.size w w') : IsSet w' b n p := by
  obtain ⟨D, h1, h2⟩ := h.own
  exact ⟨D, h1.kept (row := none) ⟨hb.os, hb.tape, hb.output, hb.size, fun k hk _ => hb.block k hk⟩ (by simp), h2⟩

theorem key_of (s : ByteArray) (hs : s.size ≤ maxLen) : keyOf Try.prog 9 (.string s) = some (.string s.toList) := by
  rw [ByteArray.toList_eq]; exact keyOf_string_mk Try.underlying9 hs

theorem put_has {D : DataW Unit} (hD : IsMap D) (s k : List UInt8) : Maps.has (D.put (.string s) (.agg [])) (.string k) = (Maps.has D (.string k) || (s == k)) := by
  by_cases e : s = k
  · subst e
    rw [has_put_same hD (by trivial)]; simp
  · have hl : (Lit.string k) ≠ (Lit.string s) := fun e' => e (by injection e' with e'; exact e'.symm)
    rw [has_put_other hl]
    simp [e]

set_option maxHeartbeats 400000 in
theorem has_any (b n : Nat) (p : List UInt8 → Bool) (s : ByteArray) (w : World) (hp : IsSet w b n p) (hs : s.size ≤ maxLen) :
    Calls Try.prog 12 #[.map (some b), .string s] w fun e w' => e = .returned (.bool (p s.toList)) ∧ Below w.heap.size w w' := by
  obtain ⟨D, h1, h2⟩ := hp.own
  have HO := hide h1
  have hkey := key_of s hs
  have HP := hide (h2 s.toList)
  clear h1 h2
  go_enter Try.func12, Try.ntmps12
  go_wp2_with (at_lookup; refine wpList_lookup_own_unit _ rfl _ _ 30 rfl 9 27 law9 Try.underlying30 (zero27 _) b n D rfl HO.out _ _ rfl hkey ?_; rw [HP.out])
  go_ret
  exact ⟨rfl, (Below.refl _ _).alloc (Nat.le_refl _) _⟩

set_option maxHeartbeats 800000 in
theorem orStar_any (b n : Nat) (p : List UInt8 → Bool) (s : ByteArray) (w : World) (hp : IsSet w b n p) (hs : s.size ≤ maxLen) :
    Calls Try.prog 11 #[.map (some b), .string s] w fun e w' => e = .returned (.bool (p s.toList || p [42])) ∧ Below w.heap.size w w' := by
  have hst : (⟨#[42]⟩ : ByteArray).toList = [42] := by rw [ByteArray.toList_eq]
  cases h1 : p s.toList
  · go_enter Try.func11, Try.ntmps11
    go_wp2_with fail
    refine (has_any b n p s w hp hs).mono ?_
    rintro e w1 ⟨rfl, b1⟩
    rw [h1]
    go_wp2_with fail
    refine (has_any b n p ⟨#[42]⟩ w1 (hp.below b1) (by decide)).mono ?_
    rintro e w2 ⟨rfl, b2⟩
    rw [hst]
    go_wp2
    go_ret
    exact ⟨rfl, b1.trans (b2.mono b1.size)⟩
  · go_enter Try.func11, Try.ntmps11
    go_wp2_with fail
    refine (has_any b n p s w hp hs).mono ?_
    rintro e w1 ⟨rfl, b1⟩
    rw [h1]
    go_wp2
    go_ret
    exact ⟨rfl, b1⟩

set_option maxHeartbeats 800000 in
theorem zOrStar_any (b n : Nat) (p : List UInt8 → Bool) (s : ByteArray) (w : World) (hp : IsSet w b n p) (hs : s.size ≤ maxLen) :
    Calls Try.prog 8 #[.map (some b), .string s] w fun e w' => e = .returned (.bool (p s.toList || p [42])) ∧ Below w.heap.size w w' := by
  go_enter Try.func8, Try.ntmps8
  go_wp2_with fail
  refine (orStar_any b n p s w hp hs).mono ?_
  rintro e w1 ⟨rfl, b1⟩
  go_wp2
  go_ret
  exact ⟨rfl, b1⟩

/-- What b1SetOf leaves. -/
def SetPost (ns : List ByteArray) (len : Nat) (w : World) (e : Ending) (w' : World) : Prop :=
  e = .returned (.map (some w.heap.size)) ∧ IsSet w' w.heap.size len (lists ns) ∧ Below w.heap.size w w'

set_option maxHeartbeats 800000 in
set_option maxRecDepth 100000 in
theorem setOf_any (a : Option Addr) (len cap : Nat) (ns : List ByteArray) (w : World) (hl : len ≤ 1000000) (hin : NRow w a len ns) :
    Calls Try.prog 7 #[.slice a len cap] w fun e w' => SetPost ns len w e w' := by
  have hmk := make25
  go_enter Try.func7, Try.ntmps7
  go_wp2
  go_loopw [4] (fun i wr => ∃ (k : Nat) (D : DataW Unit), k ≤ len ∧ i = .int .i64 k ∧ wr.ownsMap Try.prog 9 unitElem w.heap.size k D ∧ (∀ key, Maps.has D (.string key) = lists (ns.take k) key) ∧ Below w.heap.size w wr) (fun i _ => len - (intOf i).toNat)
  case atStart => exact ⟨0, .map [], Nat.zero_le _, rfl, World.ownsMap_made _ _ _ _, fun _ => rfl, (Below.refl _ _).alloc (Nat.le_refl _) _⟩
  case round =>
    obtain ⟨k, D, hk, rfl, hown, hhas, hbel⟩ := hrel
    have HO := hide hown
    have HH := hide hhas
    clear hown hhas
    by_cases hlt : k < len
    · obtain ⟨b, off, s, rfl, hs, hsz, c0⟩ := (hin.below hbel).get hlt
      have HSn := hide (take_snoc hs)
      have hkey := key_of s hsz
      have HIM := hide HO.out.isMap
      clear hs
      go_wp2_with (at_mapUpdate; refine wpList_mapUpdate_own _ rfl _ _ _ 25 rfl 9 27 law9 Try.underlying25 (unitElem (H := Unit)) w.heap.size k D rfl HO.out (by unfold maxLen; omega) _ _ _ rfl rfl hkey _ [] unitElem_mk ?_; intro w1 hown1 hgrow1)
      go_roundw
      case rel => exact ⟨k + 1, _, by omega, by go_num, hown1, fun key => by rw [put_has HIM.out, HH.out, HSn.out, lists_snoc], hbel.grown hgrow1 hbel.size (fun j hj => by cases hj; exact Nat.le_refl _)⟩
      case measure => simp [intOf]; omega
    · obtain rfl : k = len := by omega
      have HS : Hid (IsSet wr w.heap.size k (lists ns)) := ⟨D, HO.out, fun key => by rw [HH.out, List.take_of_length_le (by have := hin.len_eq; omega)]⟩
      go_wp2
      go_ret
      exact ⟨rfl, HS.out, hbel⟩

set_option maxHeartbeats 800000 in
set_option maxRecDepth 100000 in
theorem listed_any (a : Option Addr) (len cap : Nat) (ns : List ByteArray) (x : ByteArray) (w : World) (hl : len ≤ 1000000) (hin : NRow w a len ns) :
    Calls Try.prog 9 #[.slice a len cap, .string x] w fun e w' => e = .returned (.bool (lists ns x.toList)) ∧ w = w' := by
  go_enter Try.func9, Try.ntmps9
  go_wp2
  go_loop [5] (fun i => ∃ k : Nat, k ≤ len ∧ i = .int .i64 k ∧ lists (ns.take k) x.toList = false) (fun i => len - (intOf i).toNat)
  case atStart => exact ⟨0, Nat.zero_le _, rfl, rfl⟩
  case round =>
    obtain ⟨k, hk, rfl, hno⟩ := hrel
    have HN := hide hno
    clear hno
    by_cases hlt : k < len
    · obtain ⟨b, off, s, rfl, hs, hsz, c0⟩ := hin.get hlt
      have HSn := hide (take_snoc hs)
      cases hq : (s.toList == x.toList)
      · clear hs
        go_wp2
        go_round
        case rel => exact ⟨k + 1, by omega, by go_num, by rw [HSn.out, lists_snoc, HN.out, hq]; rfl⟩
        case measure => simp [intOf]; omega
      · have HY : Hid (lists ns x.toList = true) := by
          show _ = _
          simp only [lists, List.any_eq_true]
          exact ⟨s, List.mem_of_getElem? hs, hq⟩
        clear hs
        go_wp2
        go_ret
        exact ⟨by show Ending.returned (.bool true) = _; rw [HY.out], rfl⟩
    · have HY : Hid (lists ns x.toList = false) := by
        have := HN.out
        rw [List.take_of_length_le (by have := hin.len_eq; omega)] at this
        exact this
      go_wp2
      go_ret
      exact ⟨by show Ending.returned (.bool false) = _; rw [HY.out], rfl⟩

/-- It answers a number and turns nothing. -/
def NumPost (w : World) (e : Ending) (w' : World) : Prop := ∃ m : Int, e = .returned (.int .i64 m) ∧ w = w'
/-- It answers a bool and turns nothing. -/
def BoolPost (w : World) (e : Ending) (w' : World) : Prop := ∃ b : Bool, e = .returned (.bool b) ∧ w = w'

set_option maxHeartbeats 800000 in
set_option maxRecDepth 100000 in
theorem addText_any (t : Int) (a : Option Addr) (len cap : Nat) (ns : List ByteArray) (w : World) (hl : len ≤ 1000000) (hin : NRow w a len ns) :
    Calls Try.prog 6 #[.int .i64 t, .slice a len cap] w fun e w' => NumPost w e w' := by
  go_enter Try.func6, Try.ntmps6
  go_wp2
  go_loop [0, 5] (fun z i => ∃ (k : Nat) (m : Int), k ≤ len ∧ i = .int .i64 k ∧ z = .int .i64 m) (fun _ i => len - (intOf i).toNat)
  case atStart => exact ⟨0, t, Nat.zero_le _, rfl, rfl⟩
  case round =>
    obtain ⟨k, m, hk, rfl, rfl⟩ := hrel
    by_cases hlt : k < len
    · obtain ⟨b, off, s, rfl, hs, hsz, c0⟩ := hin.get hlt
      unfold maxLen at hsz
      clear hs
      go_wp2
      · go_ret
        exact ⟨_, rfl, rfl⟩
      · go_round
        case rel => exact ⟨k + 1, _, by omega, by go_num, rfl⟩
        case measure => simp [intOf]; omega
    · go_wp2
      go_ret
      exact ⟨_, rfl, rfl⟩

end Go.Proofs.Qxb6616504a
