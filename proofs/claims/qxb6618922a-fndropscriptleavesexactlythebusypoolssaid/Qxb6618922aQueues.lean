/-
  Seat b6618922a: the store's queues: a map from a pool's name to a pointer, kept as the set of its keys: the contracts of ZZnewQueues (19), ZZnewQueue (20), ZZnewLulledQueue (21), ZZput (22), ZZdrop (23), ZZhas (24), ZZcount (25), drop (29).
-/
import Derived.Test.Qxb6618922aRows
import Derived.Test.Qxb6618922aPlain
import Derived.WalkKit
import Derived.ProofKit
import Derived.Below
import Derived.Maps.OwnSet
import Derived.Maps.OwnOps
namespace Go.Proofs.Qxb6618922a
open Go.RowKit Go.Maps Go.WideMaps Go.WideElems

theorem hide {p : Prop} (h : p) : Hid p := h

/-- A pointer among a map's elements: which one does not matter here. -/
def ptrElem : Value → Option (DataW Unit × List MemPlace)
  | .pointer _ => some (.agg [], [])
  | _ => none

theorem ptrElem_inv {v : Value} {z : DataW Unit × List MemPlace} (h : ptrElem v = some z) : ∃ p, v = .pointer p := by
  cases v <;> first | exact ⟨_, rfl⟩ | (simp [ptrElem] at h)

theorem law9 : Keyed Try.prog 9 := string_keyed Try.underlying9
theorem zero36 (w : World) : (zeroValue 36).run Try.prog w = .ok (.pointer none) w := by kernel_rfl

/-- The queues in block Q: their map in block b, its keys D. -/
structure QAt (w : World) (Q b n : Nat) (D : DataW Unit) : Prop where
  cell : w.cell? ⟨Q, 2, none⟩ = some (.map (some b))
  own : w.ownsMap Try.prog 9 ptrElem b n D

set_option maxHeartbeats 400000 in
theorem newQueues_any (w : World) :
    Calls Try.prog 19 #[] w fun e w' => e = .returned (.pointer (some ⟨w.heap.size + 1, 0, none⟩)) ∧ QAt w' (w.heap.size + 1) w.heap.size 0 (.map []) ∧ Below w.heap.size w w' := by
  have hmm := @run_makeMap Try.prog
  go_enter Try.func19, Try.ntmps19
  go_wp2
  go_ret
  refine ⟨rfl, ⟨?_, (World.ownsMap_made _ _ _ _).alloc _⟩, ((Below.refl _ _).alloc (Nat.le_refl _) _).alloc (by simp) _⟩
  simp

/-- A queue in block q. -/
structure IsQ (w : World) (q : Nat) (present : Int) (lulled : Bool) : Prop where
  present : w.cell? ⟨q, 4, none⟩ = some (.int .i64 present)
  lull : ∃ lp, w.cell? ⟨q, 1, none⟩ = some (.pointer lp) ∧ lp.isNone = !lulled

set_option maxHeartbeats 400000 in
theorem newQueue_any (present : Int) (w : World) :
    Calls Try.prog 20 #[.int .i64 present] w fun e w' => ∃ q, e = .returned (.pointer (some ⟨q, 0, none⟩)) ∧ w.heap.size ≤ q ∧ q < w'.heap.size ∧ IsQ w' q present false ∧ Below w.heap.size w w' := by
  go_enter Try.func20, Try.ntmps20
  go_wp2
  go_ret
  refine ⟨_, rfl, Nat.le_refl _, by simp, ⟨by simp, none, by simp, rfl⟩, (Below.refl _ _).alloc (Nat.le_refl _) _⟩

set_option maxHeartbeats 400000 in
theorem newLulled_any (present : Int) (w : World) :
    Calls Try.prog 21 #[.int .i64 present] w fun e w' => ∃ q, e = .returned (.pointer (some ⟨q, 0, none⟩)) ∧ w.heap.size ≤ q ∧ q < w'.heap.size ∧ IsQ w' q present true ∧ Below w.heap.size w w' := by
  go_enter Try.func21, Try.ntmps21
  go_wp2
  go_ret
  refine ⟨_, rfl, Nat.le_succ _, by simp, ⟨by simp, some ⟨w.heap.size, 0, none⟩, by simp, rfl⟩, ((Below.refl _ _).alloc (Nat.le_refl _) _).alloc (by simp) _⟩

theorem QAt.ne {w : World} {Q b n : Nat} {D : DataW Unit} (h : QAt w Q b n D) : b ≠ Q := fun e => by
  obtain ⟨es, cl, hb, _⟩ := h.own
  have := h.cell
  rw [← e] at this
  simp [World.cell?, hb] at this

theorem QAt.grown {w w' : World} {Q b n : Nat} {D D' : DataW Unit} {n' : Nat} (h : QAt w Q b n D) (ho : w'.ownsMap Try.prog 9 ptrElem b n' D') (hg : w.grownBy w' (some b)) : QAt w' Q b n' D' :=
  ⟨hg.cell h.cell (fun e => h.ne (Option.some.inj e).symm), ho⟩

set_option maxHeartbeats 400000 in
theorem put_any (Q b n : Nat) (D : DataW Unit) (pool : ByteArray) (p : Option Addr) (w : World) (hq : QAt w Q b n D) (hn : n ≤ 1000000) (hp : pool.size ≤ maxLen) :
    Calls Try.prog 22 #[.pointer (some ⟨Q, 0, none⟩), .string pool, .pointer p] w fun e w' => e = .returned (.tuple #[]) ∧ QAt w' Q b (n + 1) (D.put (.string pool.data.toList) (.agg [])) ∧ w.grownBy w' (some b) := by
  have hc := hq.cell
  have hown := hq.own
  have hkey : keyOf Try.prog 9 (.string pool) = some (.string pool.data.toList) := keyOf_string_mk Try.underlying9 hp
  have HO := hide hown
  clear hown
  go_enter Try.func22, Try.ntmps22
  go_wp2_with (at_mapUpdate; refine wpList_mapUpdate_own _ rfl _ _ _ 46 rfl 9 36 law9 Try.underlying46 ptrElem b n D rfl HO.out (by unfold maxLen; omega) _ _ _ rfl rfl hkey (.agg []) [] rfl ?_; intro w1 hown1 hgrow1)
  go_end0
  exact ⟨rfl, hq.grown hown1 hgrow1, hgrow1⟩

set_option maxHeartbeats 400000 in
theorem has_any (Q b n : Nat) (D : DataW Unit) (pool : ByteArray) (w : World) (hq : QAt w Q b n D) (hp : pool.size ≤ maxLen) :
    Calls Try.prog 24 #[.pointer (some ⟨Q, 0, none⟩), .string pool] w fun e w' => e = .returned (.bool (Maps.has D (.string pool.data.toList))) ∧ w = w' := by
  have hc := hq.cell
  have hkey : keyOf Try.prog 9 (.string pool) = some (.string pool.data.toList) := keyOf_string_mk Try.underlying9 hp
  have HO := hide hq.own
  go_enter Try.func24, Try.ntmps24
  go_wp2_with (at_lookup; refine wpList_lookup_own_ok _ rfl _ _ 46 rfl 9 36 law9 Try.underlying46 ptrElem (zero36 _) (.agg []) [] rfl b n D rfl HO.out _ _ rfl hkey ?_; intro v ps hv; obtain ⟨pp, rfl⟩ := ptrElem_inv hv; clear hv)
  go_ret
  exact ⟨rfl, rfl⟩

set_option maxHeartbeats 400000 in
theorem count_any (Q b n : Nat) (D : DataW Unit) (w : World) (hq : QAt w Q b n D) :
    Calls Try.prog 25 #[.pointer (some ⟨Q, 0, none⟩)] w fun e w' => e = .returned (.int .i64 (Maps.size D)) ∧ w = w' := by
  have hc := hq.cell
  have HO := hide hq.own
  go_enter Try.func25, Try.ntmps25
  go_wp2_with (at_len; refine wpList_len_own _ rfl _ 46 rfl 9 36 Try.underlying46 ptrElem b n D rfl HO.out ?_)
  go_ret
  exact ⟨rfl, rfl⟩

set_option maxHeartbeats 800000 in
theorem drop29_any (Q b n q : Nat) (D : DataW Unit) (pool : ByteArray) (present : Int) (lulled : Bool) (w : World) (hq : QAt w Q b n D) (hp : pool.size ≤ maxLen) (hi : IsQ w q present lulled) :
    Calls Try.prog 29 #[.pointer (some ⟨Q, 0, none⟩), .string pool, .pointer (some ⟨q, 0, none⟩)] w fun e w' => e = .returned (.tuple #[]) ∧ QAt w' Q b n (dropD D (.string pool.data.toList) (present != 0 || lulled)) ∧ w.grownBy w' (some b) := by
  have hc := hq.cell
  have hpr := hi.present
  obtain ⟨lp, hl, hln⟩ := hi.lull
  have hkey : keyOf Try.prog 9 (.string pool) = some (.string pool.data.toList) := keyOf_string_mk Try.underlying9 hp
  have HO := hide hq.own
  by_cases hz : present = 0
  · subst hz
    cases lulled
    · obtain rfl : lp = none := by simpa using hln
      clear hln
      go_enter Try.func29, Try.ntmps29
      go_wp2_with (at_delete; refine wpList_delete_own _ rfl _ _ 46 9 rfl 36 law9 Try.underlying46 ptrElem b n D rfl HO.out _ _ rfl hkey ?_; intro w1 hown1 hturn1)
      go_end0
      exact ⟨rfl, hq.grown hown1 hturn1.grown, hturn1.grown⟩
    · obtain ⟨x, rfl⟩ : ∃ x, lp = some x := by cases lp with
        | none => simp at hln
        | some x => exact ⟨x, rfl⟩
      clear hln
      go_enter Try.func29, Try.ntmps29
      go_wp2
      go_end0
      exact ⟨rfl, hq, World.grownBy.refl _ _⟩
  · have hz' : (present == 0) = false := by rw [beq_eq_false_iff_ne]; exact hz
    have hb : (present != 0 || lulled) = true := by simp [hz]
    rw [hb]
    clear hln hb
    go_enter Try.func29, Try.ntmps29
    go_wp2
    go_end0
    exact ⟨rfl, hq, World.grownBy.refl _ _⟩

set_option maxHeartbeats 800000 in
theorem drop_any (Q b n q : Nat) (D : DataW Unit) (pool : ByteArray) (present : Int) (lulled : Bool) (w : World) (hq : QAt w Q b n D) (hp : pool.size ≤ maxLen) (hi : IsQ w q present lulled) :
    Calls Try.prog 23 #[.pointer (some ⟨Q, 0, none⟩), .string pool, .pointer (some ⟨q, 0, none⟩)] w fun e w' => e = .returned (.tuple #[]) ∧ QAt w' Q b n (dropD D (.string pool.data.toList) (present != 0 || lulled)) ∧ w.grownBy w' (some b) := by
  go_enter Try.func23, Try.ntmps23
  go_wp2_with fail
  refine (drop29_any Q b n q D pool present lulled w hq hp hi).mono ?_
  rintro e w' ⟨rfl, h1, h2⟩
  go_wp2
  go_end0
  exact ⟨rfl, h1, h2⟩

theorem IsQ.below {w w' : World} {q : Nat} {p : Int} {l : Bool} (h : IsQ w q p l) (hb : Below w.heap.size w w') : IsQ w' q p l := by
  obtain ⟨lp, h1, h2⟩ := h.lull
  exact ⟨(hb.cell (World.block_lt_of_cell? _ _ h.present)).trans h.present, lp, (hb.cell (World.block_lt_of_cell? _ _ h1)).trans h1, h2⟩
theorem IsQ.grown {w w' : World} {q b : Nat} {p : Int} {l : Bool} (h : IsQ w q p l) (hg : w.grownBy w' (some b)) (hne : q ≠ b) : IsQ w' q p l := by
  obtain ⟨lp, h1, h2⟩ := h.lull
  exact ⟨hg.cell h.present (fun e => hne (Option.some.inj e)), lp, hg.cell h1 (fun e => hne (Option.some.inj e)), h2⟩
theorem QAt.below {w w' : World} {Q b n : Nat} {D : DataW Unit} (h : QAt w Q b n D) (hb : Below w.heap.size w w') : QAt w' Q b n D :=
  ⟨(hb.cell (World.block_lt_of_cell? _ _ h.cell)).trans h.cell, h.own.kept (row := none) ⟨hb.os, hb.tape, hb.output, hb.size, fun k hk _ => hb.block k hk⟩ (by simp)⟩

end Go.Proofs.Qxb6618922a
