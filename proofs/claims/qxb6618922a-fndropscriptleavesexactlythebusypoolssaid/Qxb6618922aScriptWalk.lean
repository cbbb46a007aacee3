/-
  Seat b6618922a: the walk of 'FnDropScriptLeavesExactlyTheBusyPools' (function 8), out of its callees' contracts.
-/
import Derived.Test.Qxb6618922aSteps
namespace Go.Proofs.Qxb6618922a.script
open Go.RowKit Go.Maps Go.WideMaps Go.WideElems

theorem zero3 (w : World) : (zeroValue 3).run Try.prog w = .ok (.int .i64 0) w := by kernel_rfl

/-- 'm[k]' where the element is known. -/
theorem wpList_lookup_known {H : Type} {P : Program} (w : World) {ops : Array Oper} {rest : List Oper} {o : Oper} {a : Act} {Q : Exit → Act → World → Prop}
    (hg : o.guard = none) (m x : Operand) (t : TypeId) (hop : o.op = Op.lookup t m x false)
    (k e : TypeId) (q : IntKind) (K : Keyed P k) (ht : P.underlying t = some (.map k e)) (he : P.underlying e = some (.int q)) (hz : (zeroValue e).run P w = .ok (.int q 0) w) (b n : Nat) (D : DataW H)
    (hm : a.eval m = .map (some b)) (hown : w.ownsMap P k (plainElem P e) b n D) (key : Value) (kl : Lit) (hx : a.eval x = key) (hkey : keyOf P k key = some kl)
    (c0 : Int) (hc0 : D.atKey kl (.lit (.int q 0)) = .lit (.int q c0)) (hK : wpList P ops Q rest (a.put o.dst (.int q c0)) w) :
    wpList P ops Q (o :: rest) a w :=
  wpList_lookup_own_int w hg m x t hop k e q K ht he hz b n D hm hown key kl hx hkey (fun c hat _ => by
    have e1 : c = c0 := by
      rw [hc0] at hat
      injection hat with h1
      injection h1 with _ h2
      exact h2.symm
    subst e1
    exact hK)

theorem map_below {w w' : World} {b n : Nat} {M : DataW Unit} (h : w.ownsMap Try.prog 9 (plainElem Try.prog 3) b n M) (hb : Below w.heap.size w w') : w'.ownsMap Try.prog 9 (plainElem Try.prog 3) b n M :=
  h.kept (row := none) ⟨hb.os, hb.tape, hb.output, hb.size, fun k hk _ => hb.block k hk⟩ (by simp)

theorem take_snoc {ss : List Step} {k : Nat} {s : Step} (h : ss[k]? = some s) : (ss.take (k + 1)).map ev = (ss.take k).map ev ++ [ev s] := by
  obtain ⟨hk, e⟩ := List.getElem?_eq_some_iff.1 h
  rw [List.take_succ_eq_append_getElem hk, e]
  simp

set_option maxHeartbeats 8000000 in
set_option maxRecDepth 100000 in
theorem walk (a : Option Addr) (len cap : Nat) (ss : List Step) (w : World) (hl : len ≤ maxLen) (hin : SRow w a len ss) :
    Calls Try.prog 8 #[.slice a len cap] w fun e w' => e = .returned (.bool true) ∧ Below w.heap.size w w' := by
  have hmm := @run_makeMap Try.prog
  go_enter Try.func8, Try.ntmps8
  go_wp2_with fail
  refine (zz26_any a len cap ss w hl hin).mono ?_
  rintro e w' ⟨b, rfl, rfl, hsm0⟩
  cases b
  · go_wp2
    go_ret
    exact ⟨rfl, Below.refl _ _⟩
  have HS := hide (hsm0 rfl)
  clear hsm0
  unfold maxLen at hl
  by_cases hlen : 65536 < len
  · go_wp2
    go_ret
    exact ⟨rfl, Below.refl _ _⟩
  have hlen' : len ≤ 65536 := by omega
  go_wp2
  go_loop [3, 4] (fun z i => ∃ (k : Nat) (m : Int), k ≤ len ∧ i = .int .i64 k ∧ z = .int .i64 m ∧ 0 ≤ m ∧ m ≤ 1048576) (fun _ i => len - (intOf i).toNat)
  case atStart => exact ⟨0, _, Nat.zero_le _, rfl, rfl, by omega, by omega⟩
  case round =>
    obtain ⟨k, m, hk, rfl, rfl, hm0, hm1⟩ := hrel
    by_cases hlt : k < len
    · obtain ⟨b, off, s, rfl, hs, c0, _, _⟩ := hin.get hlt
      have hsz := HS.out s (List.mem_of_getElem? hs)
      clear hs
      obtain ⟨pool, present, lulled⟩ := s
      simp only at c0 hsz
      by_cases hb2 : m + (pool.size + 32) ≤ 1048576
      · go_wp2
        go_round
        case rel => exact ⟨k + 1, m + (pool.size + 32), by omega, by go_num, rfl, by omega, by omega⟩
        case measure => simp [intOf]; omega
      · go_wp2
        go_ret
        exact ⟨rfl, Below.refl _ _⟩
    · go_wp2
      go_loop [5] (fun i => ∃ k : Nat, k ≤ len ∧ i = .int .i64 k) (fun i => len - (intOf i).toNat)
      case atStart => exact ⟨0, Nat.zero_le _, rfl⟩
      case round =>
        obtain ⟨k2, hk2, rfl⟩ := hrel
        by_cases hlt2 : k2 < len
        · obtain ⟨b, off, s, rfl, hs, _, c1, _⟩ := hin.get hlt2
          clear hs
          obtain ⟨pool, present, lulled⟩ := s
          simp only at c1
          by_cases hneg : present < 0
          · go_wp2
            go_ret
            exact ⟨rfl, Below.refl _ _⟩
          · go_wp2
            go_round
            case rel => exact ⟨k2 + 1, by omega, by go_num⟩
            case measure => simp [intOf]; omega
        · go_wp2
          -- LOOP3
          go_loopw [7] (fun i wr => ∃ (k : Nat) (M : DataW Unit), k ≤ len ∧ i = .int .i64 k ∧ wr.ownsMap Try.prog 9 (plainElem Try.prog 3) w.heap.size k M ∧ Script.Lasts M ((ss.take k).map ev) ∧ Below w.heap.size w wr) (fun i _ => len - (intOf i).toNat)
          case atStart => exact ⟨0, .map [], Nat.zero_le _, rfl, World.ownsMap_made _ _ _ _, Script.lasts_nil, (Below.refl _ _).alloc (Nat.le_refl _) _⟩
          case round =>
            obtain ⟨k3, M, hk3, rfl, hM, hLa, hbel⟩ := hrel
            have HM := hide hM
            have HLa := hide hLa
            clear hM hLa
            by_cases hlt3 : k3 < len
            · obtain ⟨b, off, s, rfl, hs, c0, _, _⟩ := (hin.below hbel).get hlt3
              have hsz := HS.out s (List.mem_of_getElem? hs)
              have HSn := hide (take_snoc hs)
              clear hs
              obtain ⟨pool, present, lulled⟩ := s
              simp only at c0 hsz
              have hkey : keyOf Try.prog 9 (.string pool) = some (.string pool.data.toList) := keyOf_string_mk Try.underlying9 (by unfold maxLen; omega)
              have hln : ((ss.take k3).map ev).length = k3 := by have := hin.len_eq; simp; omega
              have HST := hide (HLa.out.step (ev ⟨pool, present, lulled⟩))
              rw [hln] at HST
              clear hln
              go_wp2_with (at_mapUpdate; refine wpList_mapUpdate_own _ rfl _ _ _ 45 rfl 9 3 law9 Try.underlying45 (plainElem Try.prog 3) w.heap.size k3 M rfl HM.out (by unfold maxLen; omega) _ _ _ rfl rfl hkey (.lit (.int .i64 (k3 : Int))) [] (plainElem_int Try.underlying3 (WalkArith.wf_i64 (by omega))) ?_; intro w1 hown1 hgrow1)
              go_roundw
              case rel => exact ⟨k3 + 1, _, by omega, by go_num, hown1, by rw [HSn.out]; exact HST.out, hbel.grown hgrow1 hbel.size (fun k hk => by cases hk; exact Nat.le_refl _)⟩
              case measure => simp [intOf]; omega
            · obtain rfl : k3 = len := by omega
              have hss : ss.take k3 = ss := List.take_of_length_le (by have := hin.len_eq; omega)
              rw [hss] at HLa
              clear hss
              go_wp2_with fail
              refine (newQueues_any wr).mono ?_
              rintro e wq ⟨rfl, hq0, bq0⟩
              have hM0 := map_below HM.out bq0
              have hB0 := hbel.trans (bq0.mono hbel.size)
              have hwlt := HM.out.lt
              obtain ⟨Qq, hQq⟩ : ∃ Qq, Qq = wr.heap.size + 1 := ⟨_, rfl⟩
              obtain ⟨bq, hbq⟩ : ∃ bq, bq = wr.heap.size := ⟨_, rfl⟩
              rw [← hQq, ← hbq] at hq0
              rw [← hQq]
              have hbqw : w.heap.size < bq := by omega
              have HQ0 := hide hq0
              have HM0 := hide hM0
              clear hq0 hM0 hQq hbq hwlt hlt3 hk3 bq0 HM hbel
              go_wp2
              go_loopw [9] (fun i wr2 => ∃ (k : Nat) (D : DataW Unit), k ≤ k3 ∧ i = .int .i64 k ∧ QAt wr2 Qq bq k D ∧ Script.Holds D ((ss.take k).map ev) ∧ wr2.ownsMap Try.prog 9 (plainElem Try.prog 3) w.heap.size k3 M ∧ Below w.heap.size w wr2) (fun i _ => k3 - (intOf i).toNat)
              case atStart => exact ⟨0, .map [], Nat.zero_le _, rfl, HQ0.out, Script.holds_nil, HM0.out, hB0⟩
              case round =>
                clear HQ0 HM0 hB0
                obtain ⟨k4, D, hk4, rfl, hQ, hH, hM, hbel⟩ := hrel
                have HQ := hide hQ
                have HH := hide hH
                have HM := hide hM
                clear hQ hH hM
                by_cases hlt4 : k4 < k3
                · obtain ⟨b, off, s, rfl, hs, c0, c1, c2⟩ := hin.get hlt4
                  have hsz := HS.out s (List.mem_of_getElem? hs)
                  have HSn := hide (take_snoc hs)
                  clear hs
                  obtain ⟨pool, present, lulled⟩ := s
                  simp only at c0 c1 c2 hsz
                  have HPs : Hid (pool.size ≤ maxLen) := by show _ ≤ _; unfold maxLen; omega
                  have hblt : b < w.heap.size := World.block_lt_of_cell? _ _ c0
                  replace c0 := (hbel.cell (World.block_lt_of_cell? _ _ c0)).trans c0
                  replace c1 := (hbel.cell (World.block_lt_of_cell? _ _ c1)).trans c1
                  replace c2 := (hbel.cell (World.block_lt_of_cell? _ _ c2)).trans c2
                  by_cases hz : present = 0
                  · cases lulled
                    · have hbz : (present != 0) = false := by rw [hz]; rfl
                      have hB : (present != 0 || false) = false := by rw [hbz]; rfl
                      clear hz
                      go_wp2_with fail
                      refine (newQueue_any present wr).mono ?_
                      rintro e v1 ⟨q, rfl, hq1, hql1, hi1, b1⟩
                      have hQ1 := QAt.below HQ.out b1
                      have hM1 := map_below HM.out b1
                      have hB1 := hbel.trans (b1.mono hbel.size)
                      have c0b := (b1.cell (World.block_lt_of_cell? _ _ c0)).trans c0
                      have c1b := (b1.cell (World.block_lt_of_cell? _ _ c1)).trans c1
                      have c2b := (b1.cell (World.block_lt_of_cell? _ _ c2)).trans c2
                      clear c0 c1 c2
                      have hqge : wr.heap.size ≤ q := hq1
                      have hqne : q ≠ bq := by have := HQ.out.own.lt; omega
                      go_wp2_with fail
                      refine (put_any Qq bq k4 D pool _ v1 hQ1 (by omega) HPs.out).mono ?_
                      rintro e v3 ⟨rfl, hQ3, g3⟩
                      have hI3 := hi1.grown g3 hqne
                      have hM3 := hM1.kept g3 (by intro e; have := Option.some.inj e; omega)
                      have hB3 := hB1.grown g3 hB1.size (fun k hk => by cases hk; omega)
                      have c0c := g3.cell c0b (by intro e; have e' := Option.some.inj e; simp only at e'; omega)
                      have c1c := g3.cell c1b (by intro e; have e' := Option.some.inj e; simp only at e'; omega)
                      have c2c := g3.cell c2b (by intro e; have e' := Option.some.inj e; simp only at e'; omega)
                      clear c0b c1b c2b
                      go_wp2_with fail
                      refine (drop_any Qq bq _ q _ pool present false v3 hQ3 HPs.out hI3).mono ?_
                      rintro e v4 ⟨rfl, hQ4, g4⟩
                      have hM4 := hM3.kept g4 (by intro e; have := Option.some.inj e; omega)
                      have hB4 := hB3.grown g4 hB3.size (fun k hk => by cases hk; omega)
                      have c0d := g4.cell c0c (by intro e; have e' := Option.some.inj e; simp only at e'; omega)
                      have c1d := g4.cell c1c (by intro e; have e' := Option.some.inj e; simp only at e'; omega)
                      have c2d := g4.cell c2c (by intro e; have e' := Option.some.inj e; simp only at e'; omega)
                      clear c0c c1c c2c
                      have HM4 := hide hM4
                      have HST := hide (HH.out.step (ev ⟨pool, present, false⟩))
                      go_wp2_with fail
                      refine (has_any Qq bq _ _ pool v4 hQ4 HPs.out).mono ?_
                      rintro e v5 ⟨rfl, rfl⟩
                      have hhas : Maps.has (dropD (D.put (.string pool.data.toList) (.agg [])) (.string pool.data.toList) (present != 0 || false)) (.string pool.data.toList) = false := HST.out.2.trans hB
                      rw [hhas]
                      clear hhas
                      go_wp2
                      go_roundw
                      case rel => exact ⟨k4 + 1, _, by omega, by go_num, hQ4, by rw [HSn.out]; exact HST.out.1, HM4.out, hB4⟩
                      case measure => simp [intOf]; omega
                    · have hbz : (present != 0) = false := by rw [hz]; rfl
                      have hB : (present != 0 || true) = true := by rw [hbz]; rfl
                      clear hz
                      go_wp2_with fail
                      refine (newQueue_any present wr).mono ?_
                      rintro e v1 ⟨q, rfl, hq1, hql1, hi1, b1⟩
                      have hQ1 := QAt.below HQ.out b1
                      have hM1 := map_below HM.out b1
                      have hB1 := hbel.trans (b1.mono hbel.size)
                      have c0a := (b1.cell (World.block_lt_of_cell? _ _ c0)).trans c0
                      have c1a := (b1.cell (World.block_lt_of_cell? _ _ c1)).trans c1
                      have c2a := (b1.cell (World.block_lt_of_cell? _ _ c2)).trans c2
                      clear hi1 c0 c1 c2
                      go_wp2_with fail
                      refine (newLulled_any present v1).mono ?_
                      rintro e v2 ⟨q2, rfl, hq2, hql2, hi2, b2⟩
                      have hQ2 := QAt.below hQ1 b2
                      have hM2 := map_below hM1 b2
                      have hB2 := hB1.trans (b2.mono hB1.size)
                      have c0b := (b2.cell (World.block_lt_of_cell? _ _ c0a)).trans c0a
                      have c1b := (b2.cell (World.block_lt_of_cell? _ _ c1a)).trans c1a
                      have c2b := (b2.cell (World.block_lt_of_cell? _ _ c2a)).trans c2a
                      clear c0a c1a c2a
                      have hqge : wr.heap.size ≤ q2 := Nat.le_trans b1.size hq2
                      have hqne : q2 ≠ bq := by have := HQ.out.own.lt; omega
                      go_wp2_with fail
                      refine (put_any Qq bq k4 D pool _ v2 hQ2 (by omega) HPs.out).mono ?_
                      rintro e v3 ⟨rfl, hQ3, g3⟩
                      have hI3 := hi2.grown g3 hqne
                      have hM3 := hM2.kept g3 (by intro e; have := Option.some.inj e; omega)
                      have hB3 := hB2.grown g3 hB2.size (fun k hk => by cases hk; omega)
                      have c0c := g3.cell c0b (by intro e; have e' := Option.some.inj e; simp only at e'; omega)
                      have c1c := g3.cell c1b (by intro e; have e' := Option.some.inj e; simp only at e'; omega)
                      have c2c := g3.cell c2b (by intro e; have e' := Option.some.inj e; simp only at e'; omega)
                      clear c0b c1b c2b
                      go_wp2_with fail
                      refine (drop_any Qq bq _ q2 _ pool present true v3 hQ3 HPs.out hI3).mono ?_
                      rintro e v4 ⟨rfl, hQ4, g4⟩
                      have hM4 := hM3.kept g4 (by intro e; have := Option.some.inj e; omega)
                      have hB4 := hB3.grown g4 hB3.size (fun k hk => by cases hk; omega)
                      have c0d := g4.cell c0c (by intro e; have e' := Option.some.inj e; simp only at e'; omega)
                      have c1d := g4.cell c1c (by intro e; have e' := Option.some.inj e; simp only at e'; omega)
                      have c2d := g4.cell c2c (by intro e; have e' := Option.some.inj e; simp only at e'; omega)
                      clear c0c c1c c2c
                      have HM4 := hide hM4
                      have HST := hide (HH.out.step (ev ⟨pool, present, true⟩))
                      go_wp2_with fail
                      refine (has_any Qq bq _ _ pool v4 hQ4 HPs.out).mono ?_
                      rintro e v5 ⟨rfl, rfl⟩
                      have hhas : Maps.has (dropD (D.put (.string pool.data.toList) (.agg [])) (.string pool.data.toList) (present != 0 || true)) (.string pool.data.toList) = true := HST.out.2.trans hB
                      rw [hhas]
                      clear hhas
                      go_wp2
                      go_roundw
                      case rel => exact ⟨k4 + 1, _, by omega, by go_num, hQ4, by rw [HSn.out]; exact HST.out.1, HM4.out, hB4⟩
                      case measure => simp [intOf]; omega
                  · cases lulled
                    · have hbz : (present != 0) = true := by simp [hz]
                      have hB : (present != 0 || false) = true := by rw [hbz]; rfl
                      clear hz
                      go_wp2_with fail
                      refine (newQueue_any present wr).mono ?_
                      rintro e v1 ⟨q, rfl, hq1, hql1, hi1, b1⟩
                      have hQ1 := QAt.below HQ.out b1
                      have hM1 := map_below HM.out b1
                      have hB1 := hbel.trans (b1.mono hbel.size)
                      have c0b := (b1.cell (World.block_lt_of_cell? _ _ c0)).trans c0
                      have c1b := (b1.cell (World.block_lt_of_cell? _ _ c1)).trans c1
                      have c2b := (b1.cell (World.block_lt_of_cell? _ _ c2)).trans c2
                      clear c0 c1 c2
                      have hqge : wr.heap.size ≤ q := hq1
                      have hqne : q ≠ bq := by have := HQ.out.own.lt; omega
                      go_wp2_with fail
                      refine (put_any Qq bq k4 D pool _ v1 hQ1 (by omega) HPs.out).mono ?_
                      rintro e v3 ⟨rfl, hQ3, g3⟩
                      have hI3 := hi1.grown g3 hqne
                      have hM3 := hM1.kept g3 (by intro e; have := Option.some.inj e; omega)
                      have hB3 := hB1.grown g3 hB1.size (fun k hk => by cases hk; omega)
                      have c0c := g3.cell c0b (by intro e; have e' := Option.some.inj e; simp only at e'; omega)
                      have c1c := g3.cell c1b (by intro e; have e' := Option.some.inj e; simp only at e'; omega)
                      have c2c := g3.cell c2b (by intro e; have e' := Option.some.inj e; simp only at e'; omega)
                      clear c0b c1b c2b
                      go_wp2_with fail
                      refine (drop_any Qq bq _ q _ pool present false v3 hQ3 HPs.out hI3).mono ?_
                      rintro e v4 ⟨rfl, hQ4, g4⟩
                      have hM4 := hM3.kept g4 (by intro e; have := Option.some.inj e; omega)
                      have hB4 := hB3.grown g4 hB3.size (fun k hk => by cases hk; omega)
                      have c0d := g4.cell c0c (by intro e; have e' := Option.some.inj e; simp only at e'; omega)
                      have c1d := g4.cell c1c (by intro e; have e' := Option.some.inj e; simp only at e'; omega)
                      have c2d := g4.cell c2c (by intro e; have e' := Option.some.inj e; simp only at e'; omega)
                      clear c0c c1c c2c
                      have HM4 := hide hM4
                      have HST := hide (HH.out.step (ev ⟨pool, present, false⟩))
                      go_wp2_with fail
                      refine (has_any Qq bq _ _ pool v4 hQ4 HPs.out).mono ?_
                      rintro e v5 ⟨rfl, rfl⟩
                      have hhas : Maps.has (dropD (D.put (.string pool.data.toList) (.agg [])) (.string pool.data.toList) (present != 0 || false)) (.string pool.data.toList) = true := HST.out.2.trans hB
                      rw [hhas]
                      clear hhas
                      go_wp2
                      go_roundw
                      case rel => exact ⟨k4 + 1, _, by omega, by go_num, hQ4, by rw [HSn.out]; exact HST.out.1, HM4.out, hB4⟩
                      case measure => simp [intOf]; omega
                    · have hbz : (present != 0) = true := by simp [hz]
                      have hB : (present != 0 || true) = true := by rw [hbz]; rfl
                      clear hz
                      go_wp2_with fail
                      refine (newQueue_any present wr).mono ?_
                      rintro e v1 ⟨q, rfl, hq1, hql1, hi1, b1⟩
                      have hQ1 := QAt.below HQ.out b1
                      have hM1 := map_below HM.out b1
                      have hB1 := hbel.trans (b1.mono hbel.size)
                      have c0a := (b1.cell (World.block_lt_of_cell? _ _ c0)).trans c0
                      have c1a := (b1.cell (World.block_lt_of_cell? _ _ c1)).trans c1
                      have c2a := (b1.cell (World.block_lt_of_cell? _ _ c2)).trans c2
                      clear hi1 c0 c1 c2
                      go_wp2_with fail
                      refine (newLulled_any present v1).mono ?_
                      rintro e v2 ⟨q2, rfl, hq2, hql2, hi2, b2⟩
                      have hQ2 := QAt.below hQ1 b2
                      have hM2 := map_below hM1 b2
                      have hB2 := hB1.trans (b2.mono hB1.size)
                      have c0b := (b2.cell (World.block_lt_of_cell? _ _ c0a)).trans c0a
                      have c1b := (b2.cell (World.block_lt_of_cell? _ _ c1a)).trans c1a
                      have c2b := (b2.cell (World.block_lt_of_cell? _ _ c2a)).trans c2a
                      clear c0a c1a c2a
                      have hqge : wr.heap.size ≤ q2 := Nat.le_trans b1.size hq2
                      have hqne : q2 ≠ bq := by have := HQ.out.own.lt; omega
                      go_wp2_with fail
                      refine (put_any Qq bq k4 D pool _ v2 hQ2 (by omega) HPs.out).mono ?_
                      rintro e v3 ⟨rfl, hQ3, g3⟩
                      have hI3 := hi2.grown g3 hqne
                      have hM3 := hM2.kept g3 (by intro e; have := Option.some.inj e; omega)
                      have hB3 := hB2.grown g3 hB2.size (fun k hk => by cases hk; omega)
                      have c0c := g3.cell c0b (by intro e; have e' := Option.some.inj e; simp only at e'; omega)
                      have c1c := g3.cell c1b (by intro e; have e' := Option.some.inj e; simp only at e'; omega)
                      have c2c := g3.cell c2b (by intro e; have e' := Option.some.inj e; simp only at e'; omega)
                      clear c0b c1b c2b
                      go_wp2_with fail
                      refine (drop_any Qq bq _ q2 _ pool present true v3 hQ3 HPs.out hI3).mono ?_
                      rintro e v4 ⟨rfl, hQ4, g4⟩
                      have hM4 := hM3.kept g4 (by intro e; have := Option.some.inj e; omega)
                      have hB4 := hB3.grown g4 hB3.size (fun k hk => by cases hk; omega)
                      have c0d := g4.cell c0c (by intro e; have e' := Option.some.inj e; simp only at e'; omega)
                      have c1d := g4.cell c1c (by intro e; have e' := Option.some.inj e; simp only at e'; omega)
                      have c2d := g4.cell c2c (by intro e; have e' := Option.some.inj e; simp only at e'; omega)
                      clear c0c c1c c2c
                      have HM4 := hide hM4
                      have HST := hide (HH.out.step (ev ⟨pool, present, true⟩))
                      go_wp2_with fail
                      refine (has_any Qq bq _ _ pool v4 hQ4 HPs.out).mono ?_
                      rintro e v5 ⟨rfl, rfl⟩
                      have hhas : Maps.has (dropD (D.put (.string pool.data.toList) (.agg [])) (.string pool.data.toList) (present != 0 || true)) (.string pool.data.toList) = true := HST.out.2.trans hB
                      rw [hhas]
                      clear hhas
                      go_wp2
                      go_roundw
                      case rel => exact ⟨k4 + 1, _, by omega, by go_num, hQ4, by rw [HSn.out]; exact HST.out.1, HM4.out, hB4⟩
                      case measure => simp [intOf]; omega
                · obtain rfl : k4 = k3 := by omega
                  have hss : ss.take k4 = ss := List.take_of_length_le (by have := hin.len_eq; omega)
                  rw [hss] at HH
                  have hinr := hin.below hbel
                  have hxl : (ss.map ev).length = k4 := by have := hin.len_eq; simpa using this
                  have HXL := hide hxl
                  clear hss hlt4 hk4 hxl
                  go_wp2
                  go_loop [12, 13] (fun wt i => ∃ (k wn : Nat), k ≤ k4 ∧ i = .int .i64 k ∧ wt = .int .i64 wn ∧ wn ≤ k ∧ wn + Script.cntL ((ss.map ev).drop k) = Script.cntL (ss.map ev)) (fun _ i => k4 - (intOf i).toNat)
                  case atStart => exact ⟨0, 0, Nat.zero_le _, rfl, rfl, Nat.le_refl _, by simp⟩
                  case round =>
                    obtain ⟨k5, wn, hk5, rfl, rfl, hwn, hcn⟩ := hrel
                    have HWN := hide hcn
                    clear hcn
                    by_cases hlt5 : k5 < k4
                    · obtain ⟨b, off, s, rfl, hs, c0, _, _⟩ := hinr.get hlt5
                      have hk5x : k5 < (ss.map ev).length := by rw [HXL.out]; exact hlt5
                      have hek : (ss.map ev)[k5] = ev s := by
                        obtain ⟨hk, e⟩ := List.getElem?_eq_some_iff.1 hs
                        simp [e]
                      have hlat := Script.later_self (ss.map ev) k5 hk5x
                      rw [hek] at hlat
                      obtain ⟨j, hj, hat, hkj, hlj⟩ := HLa.out.at_ (ev s).key hlat
                      have hjl : j < k4 := by rw [← HXL.out]; exact hj
                      obtain ⟨b', off', sj, e', hsj, d0, d1, d2⟩ := hinr.get hjl
                      obtain ⟨rfl, rfl⟩ : b = b' ∧ off = off' := by injection e' with e''; injection e'' with e1 e2; exact ⟨e1, e2⟩
                      have hej : (ss.map ev)[j] = ev sj := by
                        obtain ⟨hk, e⟩ := List.getElem?_eq_some_iff.1 hsj
                        simp [e]
                      have HLJ : Hid (Script.lastB (ss.map ev) (ev s).key = (ev sj).busy) := by
                        show _ = _
                        rw [Script.lastB_at _ _ j hj hkj hlj, hej]
                      have hcd := Script.cnt_drop (ss.map ev) k5 hk5x
                      rw [hek] at hcd
                      have HCD := hide hcd
                      have his := Script.last_is (ss.map ev) k5 j hk5x hj (by rw [hkj, hek]) (by rw [hek]; exact hlj)
                      rw [hek] at his
                      have HI := hide his
                      have HAT := hide hat
                      have hsz := HS.out s (List.mem_of_getElem? hs)
                      clear hlat hkj hlj hcd his hat e' d0
                      by_cases hjk : j = k5
                      · subst hjk
                        obtain rfl : s = sj := Option.some.inj (hs.symm.trans hsj)
                        have HIS := hide (HI.out.1 rfl)
                        have HBJ : Hid ((ev s).busy = (ev s).busy) := rfl
                        clear HI hs hsj hek hej
                        obtain ⟨pool, presentJ, lulledJ⟩ := s
                        simp only at c0 d1 d2 hsz
                        have HPs : Hid (pool.size ≤ maxLen) := by show _ ≤ _; unfold maxLen; omega
                        have hkey : keyOf Try.prog 9 (.string pool) = some (.string pool.data.toList) := keyOf_string_mk Try.underlying9 HPs.out
                        by_cases hz : presentJ = 0
                        · cases lulledJ
                          · have hbz : (presentJ != 0) = false := by rw [hz]; rfl
                            have hB : (presentJ != 0 || false) = false := by rw [hbz]; rfl
                            have HLB : Hid (Maps.has D (.string pool.data.toList) = false) := (HH.out.has _).trans (HLJ.out.trans hB)
                            have HCN : Hid (wn + 0 + Script.cntL ((ss.map ev).drop (j + 1)) = Script.cntL (ss.map ev)) := by
                              have c := HCD.out
                              have r := HWN.out
                              rw [if_neg (fun x => by have y := x.2; rw [HBJ.out.trans hB] at y; cases y)] at c
                              show _ = _
                              omega
                            clear hz HLJ HCD HIS HWN HBJ
                            go_wp2_with (at_lookup; refine wpList_lookup_known _ rfl _ _ 45 rfl 9 3 .i64 law9 Try.underlying45 Try.underlying3 (zero3 _) w.heap.size k4 M rfl HM.out _ _ rfl hkey (j : Int) HAT.out ?_)
                            refine (has_any Qq bq _ D pool wr HQ.out HPs.out).mono ?_
                            rintro e v5 ⟨rfl, rfl⟩
                            rw [HLB.out]
                            go_wp2
                            go_round
                            case rel => exact ⟨j + 1, wn, by omega, by go_num, rfl, by omega, HCN.out⟩
                            case measure => simp [intOf]; omega
                          · have hbz : (presentJ != 0) = false := by rw [hz]; rfl
                            have hB : (presentJ != 0 || true) = true := by rw [hbz]; rfl
                            have HLB : Hid (Maps.has D (.string pool.data.toList) = true) := (HH.out.has _).trans (HLJ.out.trans hB)
                            have HCN : Hid (wn + 1 + Script.cntL ((ss.map ev).drop (j + 1)) = Script.cntL (ss.map ev)) := by
                              have c := HCD.out
                              have r := HWN.out
                              rw [if_pos ⟨HIS.out, HBJ.out.trans hB⟩] at c
                              show _ = _
                              omega
                            clear hz HLJ HCD HIS HWN HBJ
                            go_wp2_with (at_lookup; refine wpList_lookup_known _ rfl _ _ 45 rfl 9 3 .i64 law9 Try.underlying45 Try.underlying3 (zero3 _) w.heap.size k4 M rfl HM.out _ _ rfl hkey (j : Int) HAT.out ?_)
                            refine (has_any Qq bq _ D pool wr HQ.out HPs.out).mono ?_
                            rintro e v5 ⟨rfl, rfl⟩
                            rw [HLB.out]
                            go_wp2
                            go_round
                            case rel => exact ⟨j + 1, wn + 1, by omega, by go_num, by go_num, by omega, HCN.out⟩
                            case measure => simp [intOf]; omega
                        · cases lulledJ
                          · have hbz : (presentJ != 0) = true := by simp [hz]
                            have hB : (presentJ != 0 || false) = true := by rw [hbz]; rfl
                            have HLB : Hid (Maps.has D (.string pool.data.toList) = true) := (HH.out.has _).trans (HLJ.out.trans hB)
                            have HCN : Hid (wn + 1 + Script.cntL ((ss.map ev).drop (j + 1)) = Script.cntL (ss.map ev)) := by
                              have c := HCD.out
                              have r := HWN.out
                              rw [if_pos ⟨HIS.out, HBJ.out.trans hB⟩] at c
                              show _ = _
                              omega
                            clear hz HLJ HCD HIS HWN HBJ
                            go_wp2_with (at_lookup; refine wpList_lookup_known _ rfl _ _ 45 rfl 9 3 .i64 law9 Try.underlying45 Try.underlying3 (zero3 _) w.heap.size k4 M rfl HM.out _ _ rfl hkey (j : Int) HAT.out ?_)
                            refine (has_any Qq bq _ D pool wr HQ.out HPs.out).mono ?_
                            rintro e v5 ⟨rfl, rfl⟩
                            rw [HLB.out]
                            go_wp2
                            go_round
                            case rel => exact ⟨j + 1, wn + 1, by omega, by go_num, by go_num, by omega, HCN.out⟩
                            case measure => simp [intOf]; omega
                          · have hbz : (presentJ != 0) = true := by simp [hz]
                            have hB : (presentJ != 0 || true) = true := by rw [hbz]; rfl
                            have HLB : Hid (Maps.has D (.string pool.data.toList) = true) := (HH.out.has _).trans (HLJ.out.trans hB)
                            have HCN : Hid (wn + 1 + Script.cntL ((ss.map ev).drop (j + 1)) = Script.cntL (ss.map ev)) := by
                              have c := HCD.out
                              have r := HWN.out
                              rw [if_pos ⟨HIS.out, HBJ.out.trans hB⟩] at c
                              show _ = _
                              omega
                            clear hz HLJ HCD HIS HWN HBJ
                            go_wp2_with (at_lookup; refine wpList_lookup_known _ rfl _ _ 45 rfl 9 3 .i64 law9 Try.underlying45 Try.underlying3 (zero3 _) w.heap.size k4 M rfl HM.out _ _ rfl hkey (j : Int) HAT.out ?_)
                            refine (has_any Qq bq _ D pool wr HQ.out HPs.out).mono ?_
                            rintro e v5 ⟨rfl, rfl⟩
                            rw [HLB.out]
                            go_wp2
                            go_round
                            case rel => exact ⟨j + 1, wn + 1, by omega, by go_num, by go_num, by omega, HCN.out⟩
                            case measure => simp [intOf]; omega
                      · have HIS := hide (fun x => hjk (HI.out.2 x))
                        have hjne : ((j : Int) == (k5 : Int)) = false := by rw [beq_eq_false_iff_ne]; omega
                        clear HI hs hsj hek hej hjk
                        obtain ⟨pool, present, lulled⟩ := s
                        obtain ⟨poolJ, presentJ, lulledJ⟩ := sj
                        simp only at c0 d1 d2 hsz
                        have HPs : Hid (pool.size ≤ maxLen) := by show _ ≤ _; unfold maxLen; omega
                        have hkey : keyOf Try.prog 9 (.string pool) = some (.string pool.data.toList) := keyOf_string_mk Try.underlying9 HPs.out
                        have hjl' : (j : Int) < (k4 : Int) := by omega
                        by_cases hz : presentJ = 0
                        · cases lulledJ
                          · have hbz : (presentJ != 0) = false := by rw [hz]; rfl
                            have hB : (presentJ != 0 || false) = false := by rw [hbz]; rfl
                            have HLB : Hid (Maps.has D (.string pool.data.toList) = false) := (HH.out.has _).trans (HLJ.out.trans hB)
                            have HCN : Hid (wn + 0 + Script.cntL ((ss.map ev).drop (k5 + 1)) = Script.cntL (ss.map ev)) := by
                              have c := HCD.out
                              have r := HWN.out
                              rw [if_neg (fun x => HIS.out x.1)] at c
                              show _ = _
                              omega
                            clear hz HLJ HCD HIS HWN
                            go_wp2_with (at_lookup; refine wpList_lookup_known _ rfl _ _ 45 rfl 9 3 .i64 law9 Try.underlying45 Try.underlying3 (zero3 _) w.heap.size k4 M rfl HM.out _ _ rfl hkey (j : Int) HAT.out ?_)
                            refine (has_any Qq bq _ D pool wr HQ.out HPs.out).mono ?_
                            rintro e v5 ⟨rfl, rfl⟩
                            rw [HLB.out]
                            go_wp2
                            go_round
                            case rel => exact ⟨k5 + 1, wn, by omega, by go_num, rfl, by omega, HCN.out⟩
                            case measure => simp [intOf]; omega
                          · have hbz : (presentJ != 0) = false := by rw [hz]; rfl
                            have hB : (presentJ != 0 || true) = true := by rw [hbz]; rfl
                            have HLB : Hid (Maps.has D (.string pool.data.toList) = true) := (HH.out.has _).trans (HLJ.out.trans hB)
                            have HCN : Hid (wn + 0 + Script.cntL ((ss.map ev).drop (k5 + 1)) = Script.cntL (ss.map ev)) := by
                              have c := HCD.out
                              have r := HWN.out
                              rw [if_neg (fun x => HIS.out x.1)] at c
                              show _ = _
                              omega
                            clear hz HLJ HCD HIS HWN
                            go_wp2_with (at_lookup; refine wpList_lookup_known _ rfl _ _ 45 rfl 9 3 .i64 law9 Try.underlying45 Try.underlying3 (zero3 _) w.heap.size k4 M rfl HM.out _ _ rfl hkey (j : Int) HAT.out ?_)
                            refine (has_any Qq bq _ D pool wr HQ.out HPs.out).mono ?_
                            rintro e v5 ⟨rfl, rfl⟩
                            rw [HLB.out]
                            go_wp2
                            go_round
                            case rel => exact ⟨k5 + 1, wn, by omega, by go_num, rfl, by omega, HCN.out⟩
                            case measure => simp [intOf]; omega
                        · cases lulledJ
                          · have hbz : (presentJ != 0) = true := by simp [hz]
                            have hB : (presentJ != 0 || false) = true := by rw [hbz]; rfl
                            have HLB : Hid (Maps.has D (.string pool.data.toList) = true) := (HH.out.has _).trans (HLJ.out.trans hB)
                            have HCN : Hid (wn + 0 + Script.cntL ((ss.map ev).drop (k5 + 1)) = Script.cntL (ss.map ev)) := by
                              have c := HCD.out
                              have r := HWN.out
                              rw [if_neg (fun x => HIS.out x.1)] at c
                              show _ = _
                              omega
                            clear hz HLJ HCD HIS HWN
                            go_wp2_with (at_lookup; refine wpList_lookup_known _ rfl _ _ 45 rfl 9 3 .i64 law9 Try.underlying45 Try.underlying3 (zero3 _) w.heap.size k4 M rfl HM.out _ _ rfl hkey (j : Int) HAT.out ?_)
                            refine (has_any Qq bq _ D pool wr HQ.out HPs.out).mono ?_
                            rintro e v5 ⟨rfl, rfl⟩
                            rw [HLB.out]
                            go_wp2
                            go_round
                            case rel => exact ⟨k5 + 1, wn, by omega, by go_num, rfl, by omega, HCN.out⟩
                            case measure => simp [intOf]; omega
                          · have hbz : (presentJ != 0) = true := by simp [hz]
                            have hB : (presentJ != 0 || true) = true := by rw [hbz]; rfl
                            have HLB : Hid (Maps.has D (.string pool.data.toList) = true) := (HH.out.has _).trans (HLJ.out.trans hB)
                            have HCN : Hid (wn + 0 + Script.cntL ((ss.map ev).drop (k5 + 1)) = Script.cntL (ss.map ev)) := by
                              have c := HCD.out
                              have r := HWN.out
                              rw [if_neg (fun x => HIS.out x.1)] at c
                              show _ = _
                              omega
                            clear hz HLJ HCD HIS HWN
                            go_wp2_with (at_lookup; refine wpList_lookup_known _ rfl _ _ 45 rfl 9 3 .i64 law9 Try.underlying45 Try.underlying3 (zero3 _) w.heap.size k4 M rfl HM.out _ _ rfl hkey (j : Int) HAT.out ?_)
                            refine (has_any Qq bq _ D pool wr HQ.out HPs.out).mono ?_
                            rintro e v5 ⟨rfl, rfl⟩
                            rw [HLB.out]
                            go_wp2
                            go_round
                            case rel => exact ⟨k5 + 1, wn, by omega, by go_num, rfl, by omega, HCN.out⟩
                            case measure => simp [intOf]; omega
                    · obtain rfl : k5 = k4 := by omega
                      have HSz : Hid (Maps.size D = wn) := by
                        have r := HWN.out
                        rw [List.drop_of_length_le (by rw [HXL.out]; exact Nat.le_refl _)] at r
                        have := HH.out.size
                        show _ = _
                        simp [Script.cntL] at r
                        omega
                      go_wp2_with fail
                      refine (count_any Qq bq _ D wr HQ.out).mono ?_
                      rintro e v6 ⟨rfl, rfl⟩
                      rw [HSz.out]
                      go_wp2
                      go_ret
                      exact ⟨rfl, hbel⟩
end Go.Proofs.Qxb6618922a.script
