/-
  Seat b6617798a: payloads: slices of byte slices: what is known of them in memory; 'clonePayloads' (function 7).
-/
import Derived.Test.Qxb6617798aClone
namespace Go.Proofs.Qxb6617798a
open Go.RowKit

/-- A byte slice that reads as o: nil, or these bytes. -/
def PayAt (w : World) (v : Value) : Option (List Int) → Prop
  | none => v = .slice none 0 0
  | some bs => ∃ x c, v = .slice (some x) bs.length c ∧ (0 < bs.length → ∃ b off, x = ⟨b, off, none⟩ ∧ b < w.heap.size ∧ ∀ j, j < bs.length → w.cell? ⟨b, off + j, none⟩ = some (.int .u8 (bs.getD j 0)))

/-- A slice of byte slices that reads as ps. -/
structure PIn (w : World) (a : Option Addr) (len : Nat) (ps : List (Option (List Int))) : Prop where
  len_eq : ps.length = len
  at_ : 0 < len → ∃ b off, a = some ⟨b, off, none⟩ ∧ b < w.heap.size ∧ ∀ j, j < len → ∃ v, w.cell? ⟨b, off + j, none⟩ = some v ∧ PayAt w v (ps.getD j none)

/-- A byte slice that was cloned: nil, or the whole of a block. -/
def PayC (w : World) (v : Value) : Option (List Int) → Prop
  | none => v = .slice none 0 0
  | some bs => ∃ gi, v = .slice (some ⟨gi, 0, none⟩) bs.length bs.length ∧ w.heap[gi]? = some (.cells (bs.map (Value.int .u8)).toArray 5 (0, 0))

/-- The outer row of a clone of ps: block g, some of its first cells maybe cleared: those from o on are ps. -/
structure Cl (w : World) (g o : Nat) (ps : List (Option (List Int))) : Prop where
  out : ∃ us : Array Value, w.heap[g]? = some (.cells us 30 (0, 0)) ∧ us.size = o + ps.length ∧ ∀ j, j < ps.length → ∃ v, us[o + j]? = some v ∧ PayC w v (ps.getD j none)

theorem lt_of_heap {w : World} {g : Nat} {o : Obj} (h : w.heap[g]? = some o) : g < w.heap.size := by
  rcases Nat.lt_or_ge g w.heap.size with h' | h'
  · exact h'
  · rw [Array.getElem?_eq_none h'] at h; cases h

theorem Below.grownBy {w w' : World} (h : Below w.heap.size w w') : w.grownBy w' none := ⟨h.os, h.tape, h.output, h.size, fun k hk _ => h.block k hk⟩

theorem PayAt.below {w w' : World} {v : Value} {o : Option (List Int)} (h : PayAt w v o) (hb : Below w.heap.size w w') : PayAt w' v o := by
  cases o with
  | none => exact h
  | some bs =>
    obtain ⟨x, c, e, hat⟩ := h
    refine ⟨x, c, e, fun h0 => ?_⟩
    obtain ⟨b, off, e1, hl, hc⟩ := hat h0
    exact ⟨b, off, e1, Nat.lt_of_lt_of_le hl hb.size, fun j hj => (hb.cell (by exact hl)).trans (hc j hj)⟩

theorem PIn.below {w w' : World} {a : Option Addr} {len : Nat} {ps : List (Option (List Int))} (h : PIn w a len ps) (hb : Below w.heap.size w w') : PIn w' a len ps :=
  ⟨h.len_eq, fun h0 => by
    obtain ⟨b, off, e, hl, hc⟩ := h.at_ h0
    refine ⟨b, off, e, Nat.lt_of_lt_of_le hl hb.size, fun j hj => ?_⟩
    obtain ⟨v, h1, h2⟩ := hc j hj
    exact ⟨v, (hb.cell (by exact hl)).trans h1, h2.below hb⟩⟩

/-- A clone's byte slice stays as long as its block does. -/
theorem PayC.kept {w w' : World} {v : Value} {o : Option (List Int)} (h : PayC w v o) (hb : ∀ (g : Nat) (cur : Array Value) (z : Nat × Nat), w.heap[g]? = some (.cells cur 5 z) → w'.heap[g]? = w.heap[g]?) : PayC w' v o := by
  cases o with
  | none => exact h
  | some bs =>
    obtain ⟨gi, e, hg⟩ := h
    exact ⟨gi, e, (hb _ _ _ hg).trans hg⟩

theorem PayC.grown {w w' : World} {v : Value} {o : Option (List Int)} (h : PayC w v o) {row : Option Nat} (hg : w.grownBy w' row) (hr : ∀ g, row = some g → ∃ cur z, w.heap[g]? = some (.cells cur 30 z)) : PayC w' v o :=
  h.kept fun g cur z h1 => hg.block g (lt_of_heap h1) (fun e => by
    obtain ⟨cur', z', h2⟩ := hr g e.symm
    rw [h1] at h2
    injection h2 with h3
    injection h3 with _ h4 _
    exact absurd h4 (by decide))

theorem PayC.form {w : World} {v : Value} {o : Option (List Int)} (h : PayC w v o) : ∃ y l c, v = .slice y l c := by
  cases o with
  | none => exact ⟨_, _, _, h⟩
  | some bs => obtain ⟨gi, e, _⟩ := h; exact ⟨_, _, _, e⟩

theorem PayC.payAt {w : World} {v : Value} {o : Option (List Int)} (h : PayC w v o) : PayAt w v o := by
  cases o with
  | none => exact h
  | some bs =>
    obtain ⟨gi, e, hg⟩ := h
    refine ⟨⟨gi, 0, none⟩, bs.length, e, fun h0 => ⟨gi, 0, rfl, lt_of_heap hg, fun j hj => ?_⟩⟩
    rw [Nat.zero_add, cell_of_row _ _ _ _ _ _ hg]
    simp [List.getD, hj]

theorem Cl.pIn {w : World} {g o : Nat} {ps : List (Option (List Int))} (h : Cl w g o ps) : PIn w (some ⟨g, o, none⟩) ps.length ps := by
  obtain ⟨us, hg, hs, hu⟩ := h.out
  refine ⟨rfl, fun _ => ⟨g, o, rfl, lt_of_heap hg, fun j hj => ?_⟩⟩
  obtain ⟨v, h1, h2⟩ := hu j hj
  exact ⟨v, by rw [cell_of_row _ _ _ _ _ _ hg]; exact h1, h2.payAt⟩

theorem Cl.kept {w w' : World} {g o : Nat} {ps : List (Option (List Int))} (h : Cl w g o ps) {row : Option Nat} (hg : w.grownBy w' row) (hr : ∀ g, row = some g → ∃ cur z, w.heap[g]? = some (.cells cur 30 z)) (hne : row ≠ some g) : Cl w' g o ps := by
  obtain ⟨us, h1, h2, h3⟩ := h.out
  refine ⟨⟨us, (hg.block g (lt_of_heap h1) (fun e => hne e.symm)).trans h1, h2, fun j hj => ?_⟩⟩
  obtain ⟨v, h4, h5⟩ := h3 j hj
  exact ⟨v, h4, h5.grown hg hr⟩

set_option maxHeartbeats 1000000 in
set_option maxRecDepth 100000 in
/-- clonePayloads at a slice that is not nil. -/
theorem clonePays_some (x : Addr) (len cap : Nat) (ps : List (Option (List Int))) (w : World) (hl : len ≤ 1000000) (hin : PIn w (some x) len ps) (hsm : ∀ bs, some bs ∈ ps → bs.length ≤ 100000000) :
    Calls Try.prog 7 #[.slice (some x) len cap] w fun e w' => e = .returned (.slice (some ⟨w.heap.size, 0, none⟩) len len) ∧ Cl w' w.heap.size 0 ps ∧ Below w.heap.size w w' := by
  obtain ⟨i0, hi, hz0, hz1, hz2⟩ := info_parts info30
  have hq := fun wx : World => Lib.run_eql_slice_nil (P := Try.prog) wx 22 30 (some x) len cap 0 0 Try.underlying22
  simp only [Option.isNone_some] at hq
  go_enter Try.func7, Try.ntmps7
  go_wp2_with (at_make; refine wpList_make_full _ rfl _ _ 22 rfl w.heap.size 30 i0 (.slice none 0 0) 1 Try.underlying22 hi hz0 hz1 _ _ _ _ len rfl rfl rfl rfl ?b2 ?b3 (Nat.le_refl _) ?_)
  case b2 => rw [hz2]; omega
  case b3 => unfold maxLen; omega
  intro w0 hown0 hgrow0
  go_wp2
  go_loopw [4] (fun i wr => ∃ (k : Nat) (us : List Value), k ≤ len ∧ i = .int .i64 k ∧ wr.ownsRow w.heap.size 30 1 (.slice (some ⟨w.heap.size, 0, none⟩) len len) len us ∧ us.length = len ∧ (∀ j, j < k → ∃ v, us[j]? = some v ∧ PayC wr v (ps.getD j none)) ∧ Below w.heap.size w wr)
    (fun i _ => len - (intOf i).toNat)
  case atStart => exact ⟨0, _, Nat.zero_le _, rfl, hown0, by have := hown0.1; simpa using this, fun j hj => by omega, (Below.refl _ _).grown hgrow0 (Nat.le_refl _) (fun k h => by cases h)⟩
  case round =>
    obtain ⟨k, us, hk, rfl, hown, hul, hus, hnx⟩ := hrel
    by_cases hlt : k < len
    · obtain ⟨b, off, rfl, hbl, hcell⟩ : ∃ b off, x = ⟨b, off, none⟩ ∧ b < w.heap.size ∧ ∀ j, j < len → ∃ v, w.cell? ⟨b, off + j, none⟩ = some v ∧ PayAt w v (ps.getD j none) := by
        obtain ⟨b, off, e, r⟩ := hin.at_ (by omega)
        exact ⟨b, off, Option.some.inj e, r⟩
      obtain ⟨v, hcv, hpa⟩ := hcell k hlt
      have hcx : wr.cell? ⟨b, off + k, none⟩ = some v := (hnx.cell (by exact hbl)).trans hcv
      have hpr := hpa.below hnx
      have hmem : ∀ bs, ps.getD k none = some bs → bs.length ≤ 100000000 := fun bs hb => hsm bs (by
        have hkp : k < ps.length := by have := hin.len_eq; omega
        have : ps.getD k none = ps[k] := by simp [List.getD, hkp]
        rw [← hb, this]
        exact List.getElem_mem hkp)
      -- the call's outcome, whatever the payload
      obtain ⟨Q, hcall, hQ⟩ : ∃ Q : Value → World → Prop, (∃ y l c, v = .slice y l c ∧ Calls Try.prog 15 #[.slice y l c] wr fun e w' => ∃ r, e = .returned r ∧ Q r w') ∧ ∀ r w', Q r w' → PayC w' r (ps.getD k none) ∧ Below wr.heap.size wr w' := by
        generalize ps.getD k none = po at hpr hmem
        cases po with
        | none =>
          refine ⟨fun r w' => r = .slice none 0 0 ∧ wr = w', ⟨none, 0, 0, hpr, (cloneBytes_none 0 0 wr).mono fun e w' h => ⟨_, h.1, rfl, h.2⟩⟩, fun r w' h => ⟨h.1, h.2 ▸ Below.refl _ _⟩⟩
        | some bs =>
          obtain ⟨y, c, e, hat⟩ := hpr
          refine ⟨fun r w' => PayC w' r (some bs) ∧ Below wr.heap.size wr w', ⟨some y, bs.length, c, e, (cloneBytes_some y bs.length c bs wr (hmem bs rfl) rfl hat).mono fun e w' h => ⟨_, h.1, ⟨_, rfl, h.2.1⟩, h.2.2⟩⟩, fun r w' h => h⟩
      obtain ⟨y, l, c, rfl, hcall⟩ := hcall
      have HC := hide hcall
      have HQ := hide hQ
      have HO := hide hown
      have HU := hide hus
      clear hcall hQ hpr hpa hcell hmem hown hus hcv
      go_wp2_with fail
      refine HC.out.mono ?_
      rintro e w' ⟨r, rfl, hq'⟩
      obtain ⟨hpc, hbw⟩ := HQ.out r w' hq'
      obtain ⟨y', l', c', hr⟩ := hpc.form
      subst hr
      clear hq' HQ
      have hown := HO.out.kept (Below.grownBy hbw) (Or.inr (by simp [Value.ownBlock]))
      have hck : w'.cell? ⟨w.heap.size, k, none⟩ = some us[k] := by rw [hown.cellAt k (by omega)]; exact List.getElem?_eq_getElem (by omega)
      have hfk := hown.frozenAt k
      generalize us[k] = u0 at hck
      have hg30 := own_block hown
      have R := hown.stored k (.slice y' l' c')
      have R1 := hide R.1
      have R2 := hide R.2
      have HPC := hide hpc
      have HG := hide hg30
      have HBW := hide hbw
      clear R hpc hg30 hown
      go_wp2
      go_roundw
      case rel =>
        have hg2 := HG.out
        refine ⟨k + 1, us.set k (.slice y' l' c'), by omega, by go_num, R1.out, by simpa using hul, fun j hj => ?_, (hnx.trans (HBW.out.mono (hnx.size))).grown R2.out (Nat.le_trans hnx.size HBW.out.size) (fun j h => by cases h; exact Nat.le_refl _)⟩
        have h30 : ∀ g, some w.heap.size = some g → ∃ cur z, w'.heap[g]? = some (.cells cur 30 z) := fun g hg => by cases hg; exact ⟨_, _, hg2⟩
        by_cases hjk : j = k
        · subst hjk
          exact ⟨_, List.getElem?_set_self (by omega), HPC.out.grown R2.out h30⟩
        · rw [List.getElem?_set_ne (by omega)]
          obtain ⟨v, h1, h2⟩ := HU.out j (by omega)
          exact ⟨v, h1, (h2.grown (Below.grownBy HBW.out) (fun g hg => by cases hg)).grown R2.out h30⟩
      case measure => simp [intOf]; omega
    · have hkl : k = len := by omega
      subst hkl
      have HE : Hid (Cl wr w.heap.size 0 ps) := by
        refine ⟨⟨us.toArray, own_block hown, by simp [hul, hin.len_eq], fun j hj => ?_⟩⟩
        obtain ⟨v, h1, h2⟩ := hus j (by have := hin.len_eq; omega)
        exact ⟨v, by simpa using h1, h2⟩
      clear hus hown
      go_wp2
      go_ret
      exact ⟨rfl, HE.out, hnx⟩

set_option maxHeartbeats 400000 in
/-- clonePayloads at nil. -/
theorem clonePays_none (len cap : Nat) (w : World) : Calls Try.prog 7 #[.slice none len cap] w fun e w' => e = .returned (.slice none 0 0) ∧ w = w' := by
  have hq := fun wx : World => Lib.run_eql_slice_nil (P := Try.prog) wx 22 30 none len cap 0 0 Try.underlying22
  simp only [Option.isNone_none] at hq
  go_enter Try.func7, Try.ntmps7
  go_wp2
  go_ret
  exact ⟨rfl, rfl⟩
end Go.Proofs.Qxb6617798a
