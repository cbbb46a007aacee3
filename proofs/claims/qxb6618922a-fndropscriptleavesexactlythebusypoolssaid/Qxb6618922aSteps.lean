/-
  Seat b6618922a: the script's steps in memory; the bound that is laid ahead of the law (function 26).
-/
import Derived.Test.Qxb6618922aQueues
import Derived.Test.Qxb6618922aPlainS
namespace Go.Proofs.Qxb6618922a
open Go.RowKit Go.Maps

/-- One step of the script. -/
structure Step where
  pool : ByteArray
  present : Int
  lulled : Bool

def ev (s : Step) : Script.Ev := ⟨s.pool.data.toList, s.present != 0 || s.lulled⟩

/-- The steps, three cells each, where the slice leads. -/
structure SRow (w : World) (a : Option Addr) (len : Nat) (ss : List Step) : Prop where
  len_eq : ss.length = len
  at_ : 0 < len → ∃ b off, a = some ⟨b, off, none⟩ ∧ b < w.heap.size ∧ ∀ j s, ss[j]? = some s → w.cell? ⟨b, off + j * 3, none⟩ = some (.string s.pool) ∧ w.cell? ⟨b, off + j * 3 + 1, none⟩ = some (.int .i64 s.present) ∧ w.cell? ⟨b, off + j * 3 + 2, none⟩ = some (.bool s.lulled)

theorem SRow.below {w w' : World} {a : Option Addr} {len : Nat} {ss : List Step} (h : SRow w a len ss) (hb : Below w.heap.size w w') : SRow w' a len ss :=
  ⟨h.len_eq, fun h0 => by
    obtain ⟨b, off, e, hl, hc⟩ := h.at_ h0
    refine ⟨b, off, e, Nat.lt_of_lt_of_le hl hb.size, fun j s hs => ?_⟩
    obtain ⟨c0, c1, c2⟩ := hc j s hs
    exact ⟨(hb.cell (by exact hl)).trans c0, (hb.cell (by exact hl)).trans c1, (hb.cell (by exact hl)).trans c2⟩⟩

theorem SRow.get {w : World} {a : Option Addr} {len : Nat} {ss : List Step} (h : SRow w a len ss) {k : Nat} (hk : k < len) :
    ∃ b off s, a = some ⟨b, off, none⟩ ∧ ss[k]? = some s ∧ w.cell? ⟨b, off + k * 3, none⟩ = some (.string s.pool) ∧ w.cell? ⟨b, off + k * 3 + 1, none⟩ = some (.int .i64 s.present) ∧ w.cell? ⟨b, off + k * 3 + 2, none⟩ = some (.bool s.lulled) := by
  obtain ⟨b, off, e, _, hc⟩ := h.at_ (by omega)
  have hkl : k < ss.length := by have := h.len_eq; omega
  have hs : ss[k]? = some ss[k] := List.getElem?_eq_getElem hkl
  obtain ⟨c0, c1, c2⟩ := hc k _ hs
  exact ⟨b, off, _, e, hs, c0, c1, c2⟩

/-- It answers a bool and turns nothing; where it says yes the names are short. -/
def ZzPost (w : World) (ss : List Step) (e : Ending) (w' : World) : Prop := ∃ b : Bool, e = .returned (.bool b) ∧ w = w' ∧ (b = true → ∀ s ∈ ss, s.pool.size ≤ 1048576)

set_option maxHeartbeats 2000000 in
set_option maxRecDepth 100000 in
theorem zz26_any (a : Option Addr) (len cap : Nat) (ss : List Step) (w : World) (hl : len ≤ maxLen) (hin : SRow w a len ss) :
    Calls Try.prog 26 #[.slice a len cap] w fun e w' => ZzPost w ss e w' := by
  unfold maxLen at hl
  by_cases g1 : len ≤ 1048576
  · go_enter Try.func26, Try.ntmps26
    go_wp2
    go_loop [3, 4] (fun z i => ∃ (k : Nat) (m : Int), k ≤ len ∧ i = .int .i64 k ∧ z = .int .i64 m ∧ 0 ≤ m ∧ m ≤ 1048576 ∧ ∀ j s, j < k → ss[j]? = some s → s.pool.size ≤ 1048576) (fun _ i => len - (intOf i).toNat)
    case atStart => exact ⟨0, _, Nat.zero_le _, rfl, rfl, by omega, by omega, fun j s hj => by omega⟩
    case round =>
      obtain ⟨k, m, hk, rfl, rfl, hm0, hm1, hall⟩ := hrel
      have HA := hide hall
      clear hall
      by_cases hlt : k < len
      · obtain ⟨b, off, s, rfl, hs, c0, _, _⟩ := hin.get hlt
        have HSx := hide hs
        clear hs
        obtain ⟨pool, present, lulled⟩ := s
        simp only at c0
        by_cases hb1 : pool.size ≤ 1048576
        · by_cases hb2 : m + pool.size ≤ 1048576
          · go_wp2
            go_round
            case rel => exact ⟨k + 1, m + pool.size, by omega, by go_num, rfl, by omega, by omega, fun j s hj hs => by
              by_cases hjk : j = k
              · subst hjk
                rw [HSx.out] at hs
                cases hs
                exact hb1
              · exact HA.out j s (by omega) hs⟩
            case measure => simp [intOf]; omega
          · go_wp2
            go_ret
            exact ⟨_, rfl, rfl, fun h => by cases h⟩
        · go_wp2
          go_ret
          exact ⟨_, rfl, rfl, fun h => by cases h⟩
      · have HF : Hid (∀ s ∈ ss, s.pool.size ≤ 1048576) := fun s hs => by
          obtain ⟨j, hj, e⟩ := List.getElem_of_mem hs
          exact HA.out j s (by have := hin.len_eq; omega) (by rw [List.getElem?_eq_getElem hj, e])
        go_wp2
        go_ret
        exact ⟨_, rfl, rfl, fun _ => HF.out⟩
  · go_enter Try.func26, Try.ntmps26
    go_wp2
    go_ret
    exact ⟨_, rfl, rfl, fun h => by cases h⟩

end Go.Proofs.Qxb6618922a
