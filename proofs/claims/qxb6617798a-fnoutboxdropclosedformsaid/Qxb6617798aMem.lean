/-
  Seat b6617798a: memory: what is known of a slice of ints, of an outbox's six cells.
-/
import Derived.Test.Qxb6617798aRows
import Derived.Test.Qxb6617798aPlain
import Derived.WalkKit
import Derived.ProofKit
import Derived.Below
import Derived.Lib.SliceRun
namespace Go.Proofs.Qxb6617798a
open Go.RowKit

theorem hide {p : Prop} (h : p) : Hid p := h

/-- w' is w but for block B. -/
structure Only (B : Nat) (w w' : World) : Prop where
  os : w'.os = w.os
  tape : w'.tape = w.tape
  output : w'.output = w.output
  size : w'.heap.size = w.heap.size
  block : ∀ k, k ≠ B → w'.heap[k]? = w.heap[k]?

theorem Only.refl (B : Nat) (w : World) : Only B w w := ⟨rfl, rfl, rfl, rfl, fun _ _ => rfl⟩
theorem Only.trans {B : Nat} {a b c : World} (h : Only B a b) (k : Only B b c) : Only B a c :=
  ⟨k.os.trans h.os, k.tape.trans h.tape, k.output.trans h.output, k.size.trans h.size, fun i hi => (k.block i hi).trans (h.block i hi)⟩
theorem Only.drew {B : Nat} {a b : World} (h : Only B a b) : Only B a b.drew := ⟨h.os, h.tape, h.output, h.size, h.block⟩
theorem Only.setCell {B : Nat} {a b : World} (h : Only B a b) (j : Nat) (v : Value) : Only B a (b.setCell ⟨B, j, none⟩ v) :=
  h.trans ⟨rfl, rfl, rfl, by simp, fun k hk => heap_setCell_other b ⟨B, j, none⟩ k v hk⟩
theorem Only.setCells {B : Nat} {a : World} : ∀ (vs : List Value) (o : Nat) {b : World}, Only B a b → Only B a (b.setCells B o vs)
  | [], _, _, h => h
  | v :: vs, o, _, h => Only.setCells vs (o + 1) (h.setCell o v)

/-- The numbers zs lie in block gb, where the slice leads. -/
structure IRow (w : World) (gb : Nat) (a : Option Addr) (len : Nat) (zs : List Int) : Prop where
  len_eq : zs.length = len
  at_ : 0 < len → ∃ off, a = some ⟨gb, off, none⟩ ∧ ∀ j, j < len → w.cell? ⟨gb, off + j, none⟩ = some (.int .i64 (zs.getD j 0))

theorem IRow.only {w w' : World} {B gb : Nat} {a : Option Addr} {len : Nat} {zs : List Int} (h : IRow w gb a len zs) (ho : Only B w w') (hne : gb ≠ B) : IRow w' gb a len zs :=
  ⟨h.len_eq, fun h0 => by
    obtain ⟨off, e, hc⟩ := h.at_ h0
    exact ⟨off, e, fun j hj => (World.cell?_of_block (w := w) (ho.block gb hne)).trans (hc j hj)⟩⟩

/-- An outbox in block B. -/
structure Box (w : World) (B : Nat) (p b : Value) (bt h hm wt : Int) : Prop where
  blk : w.heap[B]? = some (.cells #[p, b, .int .i64 bt, .int .i64 h, .int .i64 hm, .int .i64 wt] 40 (0, 0))

theorem Box.cells {w : World} {B : Nat} {p b : Value} {bt h hm wt : Int} (hb : Box w B p b bt h hm wt) :
    w.cell? ⟨B, 0, none⟩ = some p ∧ w.cell? ⟨B, 1, none⟩ = some b ∧ w.cell? ⟨B, 2, none⟩ = some (.int .i64 bt) ∧ w.cell? ⟨B, 3, none⟩ = some (.int .i64 h) ∧ w.cell? ⟨B, 4, none⟩ = some (.int .i64 hm) ∧ w.cell? ⟨B, 5, none⟩ = some (.int .i64 wt) :=
  ⟨by rw [cell_of_row _ _ _ _ _ _ hb.blk]; rfl, by rw [cell_of_row _ _ _ _ _ _ hb.blk]; rfl, by rw [cell_of_row _ _ _ _ _ _ hb.blk]; rfl, by rw [cell_of_row _ _ _ _ _ _ hb.blk]; rfl, by rw [cell_of_row _ _ _ _ _ _ hb.blk]; rfl, by rw [cell_of_row _ _ _ _ _ _ hb.blk]; rfl⟩

theorem Box.free {w : World} {B : Nat} {p b : Value} {bt h hm wt : Int} (hb : Box w B p b bt h hm wt) (j : Nat) : w.frozen? ⟨B, j, none⟩ = false := frozen_of_row _ _ _ _ _ hb.blk

theorem Box.set0 {w : World} {B : Nat} {p b : Value} {bt h hm wt : Int} (hb : Box w B p b bt h hm wt) (v : Value) : Box (w.setCell ⟨B, 0, none⟩ v) B v b bt h hm wt := ⟨heap_setCell_same _ _ _ _ _ _ hb.blk⟩
theorem Box.set1 {w : World} {B : Nat} {p b : Value} {bt h hm wt : Int} (hb : Box w B p b bt h hm wt) (v : Value) : Box (w.setCell ⟨B, 1, none⟩ v) B p v bt h hm wt := ⟨heap_setCell_same _ _ _ _ _ _ hb.blk⟩
theorem Box.set2 {w : World} {B : Nat} {p b : Value} {bt h hm wt : Int} (hb : Box w B p b bt h hm wt) (v : Int) : Box (w.setCell ⟨B, 2, none⟩ (.int .i64 v)) B p b v h hm wt := ⟨heap_setCell_same _ _ _ _ _ _ hb.blk⟩
theorem Box.set3 {w : World} {B : Nat} {p b : Value} {bt h hm wt : Int} (hb : Box w B p b bt h hm wt) (v : Int) : Box (w.setCell ⟨B, 3, none⟩ (.int .i64 v)) B p b bt v hm wt := ⟨heap_setCell_same _ _ _ _ _ _ hb.blk⟩
theorem Box.set4 {w : World} {B : Nat} {p b : Value} {bt h hm wt : Int} (hb : Box w B p b bt h hm wt) (v : Int) : Box (w.setCell ⟨B, 4, none⟩ (.int .i64 v)) B p b bt h v wt := ⟨heap_setCell_same _ _ _ _ _ _ hb.blk⟩
theorem Box.set5 {w : World} {B : Nat} {p b : Value} {bt h hm wt : Int} (hb : Box w B p b bt h hm wt) (v : Int) : Box (w.setCell ⟨B, 5, none⟩ (.int .i64 v)) B p b bt h hm v := ⟨heap_setCell_same _ _ _ _ _ _ hb.blk⟩
theorem Box.drew {w : World} {B : Nat} {p b : Value} {bt h hm wt : Int} (hb : Box w B p b bt h hm wt) : Box w.drew B p b bt h hm wt := ⟨hb.blk⟩
theorem Box.only {w w' : World} {B g : Nat} {p b : Value} {bt h hm wt : Int} (hb : Box w B p b bt h hm wt) (ho : Only g w w') (hne : B ≠ g) : Box w' B p b bt h hm wt := ⟨(ho.block B hne).trans hb.blk⟩

/-- How many batches the outbox in block B holds: the loop's measure. -/
def lenAt (w : World) (B : Nat) : Nat := match w.cell? ⟨B, 1, none⟩ with
  | some (.slice _ n _) => n
  | _ => 0

theorem Box.lenAt {w : World} {B : Nat} {p : Value} {a : Option Addr} {n c : Nat} {bt h hm wt : Int} (hb : Box w B p (.slice a n c) bt h hm wt) : lenAt w B = n := by
  unfold Qxb6617798a.lenAt; rw [hb.cells.2.1]

/-- s[i:]: whatever its address is, it is one value. -/
theorem slice_from (t e : TypeId) (hu : Try.prog.underlying t = some (.slice e)) (hs : ∀ w : World, (sizeOf e).run Try.prog w = .ok 1 w) (a : Option Addr) (len cap k : Nat) (hk : k ≤ len) :
    ∀ wx : World, (Instr.sliceAt t (.slice a len cap) (some (.int .i64 (k : Int))) none none).run Try.prog wx = .ok (.slice (if cap = k then a else a.map (fun x => x.add k)) (len - k) (cap - k)) wx := by
  intro wx
  have he : Try.prog.elem t = e := by simp [Program.elem, hu]
  have hu' : Try.prog.underlying t = some (.slice (Try.prog.elem t)) := by rw [he]; exact hu
  rw [run_sliceAt_slice (P := Try.prog) _ _ _ _ _ _ hu', run_slice_l (P := Try.prog) _ _ _ _ _ hu' .i64 _ (by omega) (by omega), he, hs]
  simp [sliced, Result.andThen]

theorem size3 (w : World) : (sizeOf 3).run Try.prog w = .ok 1 w := by kernel_rfl
theorem size30 (w : World) : (sizeOf 30).run Try.prog w = .ok 1 w := by kernel_rfl
theorem zero30 (w : World) : (zeroValue 30).run Try.prog w = .ok (.slice none 0 0) w := by kernel_rfl

theorem IRow.tail {w : World} {gb : Nat} {a : Option Addr} {n cap : Nat} {z : Int} {zs : List Int} (h : IRow w gb a (n + 1) (z :: zs)) (hc : n + 1 ≤ cap) : IRow w gb (if cap = 1 then a else a.map (fun x => x.add 1)) n zs :=
  ⟨by simpa using h.len_eq, fun h0 => by
    obtain ⟨off, e, hcell⟩ := h.at_ (by omega)
    rw [if_neg (by omega)]
    refine ⟨off + 1, by rw [e]; simp [Addr.add], fun j hj => ?_⟩
    have := hcell (j + 1) (by omega)
    rw [Nat.add_assoc, Nat.add_comm 1 j, this]
    simp [List.getD]⟩

end Go.Proofs.Qxb6617798a
