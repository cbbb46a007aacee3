/-
  Seat b6617798a: the walk of 'FnOutboxDropClosedForm' (function 3), out of its callees' contracts.
-/
import Derived.Test.Qxb6617798aUse2
import Derived.Test.Qxb6617798aSameP
import Derived.Test.Qxb6617798aBounds
import Derived.Test.Qxb6617798aFit
import Derived.WalkSpells
namespace Go.Proofs.Qxb6617798a.closed
open Go.RowKit

theorem get_mem {zs : List Int} {k : Nat} (h : k < zs.length) : zs.getD k 0 ∈ zs := by
  have : zs.getD k 0 = zs[k] := by simp [List.getD, h]
  rw [this]; exact List.getElem_mem h

theorem irow_at {w : World} {gb : Nat} {a : Option Addr} {len : Nat} {zs : List Int} (h : IRow w gb a len zs) : 0 < len → ∃ b off, a = some ⟨b, off, none⟩ ∧ ∀ j, j < len → w.cell? ⟨b, off + j, none⟩ = some (.int .i64 (zs.getD j 0)) := fun h0 => by
  obtain ⟨off, e, hc⟩ := h.at_ h0
  exact ⟨gb, off, e, hc⟩

theorem below_drawn (B : Nat) (w : World) (q : Nat) : Below B w (w.drewN q) := ⟨rfl, rfl, rfl, Nat.le_refl _, fun _ _ => rfl⟩

theorem sum_take_succ {zs : List Int} {k : Nat} (h : k < zs.length) : (zs.take (k + 1)).sum = (zs.take k).sum + zs.getD k 0 := by
  have e : zs.getD k 0 = zs[k] := by simp [List.getD, h]
  rw [List.take_succ_eq_append_getElem h, List.sum_append, e]
  simp


theorem fit_use (gb : Nat) (a : Option Addr) (len cap : Nat) (zs : List Int) (d : Int) (K : Nat) (S : Int) (w : World) (hK : K = Plain.fit zs d) (hS : S = (zs.take K).sum) (hl : len ≤ 1000000000) (hd0 : 0 ≤ d) (hd1 : d ≤ 1000000000) (hz : IRow w gb a len zs) (hz0 : ∀ z ∈ zs, 0 ≤ z) (hz1 : ∀ z ∈ zs, z ≤ 9223372036854775807) :
    Calls Try.prog 11 #[.slice a len cap, .int .i64 d] w fun e w' => e = .returned (.tuple #[.int .i64 (K : Int), .int .i64 S]) ∧ ∃ q, w' = w.drewN q := by
  subst hK hS
  exact fit_any gb a len cap zs d w hl hd0 hd1 hz hz0 hz1

theorem irow_take {w : World} {gb : Nat} {a : Option Addr} {len : Nat} {zs : List Int} (h : IRow w gb a len zs) {m : Nat} (hm : m ≤ len) : IRow w gb a m (zs.take m) :=
  ⟨by simp [h.len_eq]; omega, fun h0 => by
    obtain ⟨off, e, hc⟩ := h.at_ (by omega)
    exact ⟨off, e, fun j hj => by rw [hc j (by omega)]; simp [List.getD, hj]⟩⟩

theorem irow_drop {w : World} {gb : Nat} {a : Option Addr} {len cap : Nat} {zs : List Int} (h : IRow w gb a len zs) {k : Nat} (hk : k < len) (hc : len ≤ cap) : IRow w gb (if cap = k then a else a.map fun x => x.add k) (len - k) (zs.drop k) ∧ (if cap = k then a else a.map fun x => x.add k).isNone = false := by
  rw [if_neg (by omega)]
  obtain ⟨off, e, hcell⟩ := h.at_ (by omega)
  subst e
  refine ⟨⟨by simp [h.len_eq], fun _ => ⟨off + k, by simp [Addr.add], fun j hj => ?_⟩⟩, rfl⟩
  rw [Nat.add_assoc, hcell (k + j) (by omega)]
  simp [List.getD]

set_option maxHeartbeats 8000000 in
set_option maxRecDepth 100000 in
theorem walk (a : Option Addr) (len cap : Nat) (ps : List (Option (List Int))) (gb : Nat) (ab : Option Addr) (lb cb : Nat) (zs : List Int) (bt h hm wt done : Int) (w : World)
    (hl : len ≤ maxLen) (hlb : lb ≤ maxLen) (hnil : a = none → len = 0) (hbnil : ab = none → lb = 0) (hin : PIn w a len ps) (hz : IRow w gb ab lb zs) (hwz : ∀ z ∈ zs, z ≤ 9223372036854775807) (hbt : Plain.In bt) (hh : Plain.In h) (hhm : Plain.In hm) :
    Calls Try.prog 3 #[.slice a len cap, .slice ab lb cb, .int .i64 bt, .int .i64 h, .int .i64 hm, .int .i64 wt, .int .i64 done] w fun e w' => e = .returned (.bool true) ∧ Below w.heap.size w w' := by
  go_enter Try.func3, Try.ntmps3
  go_wp2_with fail
  refine (zz5_any a len cap ps ab lb cb bt h hm wt done w hl hlb hin).mono ?_
  rintro e w' ⟨b, rfl, rfl, hsm0⟩
  cases b
  · go_wp2
    go_ret
    exact ⟨rfl, Below.refl _ _⟩
  have hsm := hsm0 rfl
  clear hsm0
  go_wp2_with fail
  refine (over_any a len cap ps ab lb cb w hl hlb hin hsm).mono ?_
  rintro e w' ⟨b, rfl, rfl, hov⟩
  cases b
  case true =>
    go_wp2
    go_ret
    exact ⟨rfl, Below.refl _ _⟩
  obtain ⟨hl1, hl2⟩ := hov rfl
  have HS : Hid (∀ bs, some bs ∈ ps → bs.length ≤ 100000000) := fun bs hb => by have := hsm bs hb; omega
  clear hsm hov hl hlb
  by_cases hd0 : done < 0
  · go_wp2
    go_ret
    exact ⟨rfl, Below.refl _ _⟩
  obtain ⟨dn, rfl⟩ := Int.eq_ofNat_of_zero_le (Int.not_lt.1 hd0)
  by_cases hd1 : len < dn
  · go_wp2
    go_ret
    exact ⟨rfl, Below.refl _ _⟩
  go_wp2
  go_loop [15] (fun i => ∃ k : Nat, k ≤ lb ∧ i = .int .i64 k ∧ ∀ j, j < k → 0 ≤ zs.getD j 0) (fun i => lb - (intOf i).toNat)
  case atStart => exact ⟨0, Nat.zero_le _, rfl, fun j hj => by omega⟩
  case round =>
    obtain ⟨k, hk, rfl, hpos⟩ := hrel
    have HP := hide hpos
    clear hpos
    by_cases hlt : k < lb
    · obtain ⟨off, rfl, hcell⟩ := hz.at_ (by omega)
      have hck := hcell k hlt
      generalize hzk : zs.getD k 0 = z at hck
      have HZ := hide hzk
      clear hzk hcell
      by_cases hneg : z < 0
      · go_wp2
        go_ret
        exact ⟨rfl, Below.refl _ _⟩
      · go_wp2
        go_round
        case rel => exact ⟨k + 1, by omega, by go_num, fun j hj => by
          by_cases hjk : j = k
          · subst hjk; rw [HZ.out]; omega
          · exact HP.out j (by omega)⟩
        case measure => simp [intOf]; omega
    · have hz0 : ∀ z ∈ zs, 0 ≤ z := fun z hzz => by
        obtain ⟨j, hj, e⟩ := List.getElem_of_mem hzz
        have := HP.out j (by have := hz.len_eq; omega)
        rw [← e]
        simpa [List.getD, hj] using this
      have HZ0 := hide hz0
      have hpl := hin.len_eq
      have HPL := hide hpl
      clear hz0 HP hpl
      -- wantPayloads
      go_wp2_with fail
      refine (clonePays_any a len cap ps w (by omega) hin hnil HS.out).mono ?_
      rintro e w1 ⟨aw, cw, rfl, cw1, cw2, cwn, bw, hcw⟩
      have HCW := hide hcw
      clear cwn hcw
      -- wantBatches
      go_wp2_with fail
      refine (cloneInts_any gb ab lb cb zs w1 (by omega) (hz.below bw) hbnil).mono ?_
      rintro e w2 ⟨awb, cwb, rfl, cx1, cx2, bx, hsx, hix⟩
      have HSX := hide hsx
      clear hsx
      -- payloads
      go_wp2_with fail
      refine (clonePays_any a len cap ps w2 (by omega) ((hin.below bw).below bx) hnil HS.out).mono ?_
      rintro e w3 ⟨ap, cp, rfl, cp1, cp2, cpn, bp, hcp⟩
      have HCP := hide hcp
      clear cpn hcp
      -- batches
      go_wp2_with fail
      refine (cloneInts_any gb ab lb cb zs w3 (by omega) (((hz.below bw).below bx).below bp) hbnil).mono ?_
      rintro e w4 ⟨abp, cbp, rfl, cb1, cb2, bb, hsb, hib⟩
      have HSB := hide hsb
      clear hsb
      -- the drop
      go_wp2_with fail
      obtain ⟨Dbs, Dbt, Dh, Dhm, Dwt, hD⟩ : ∃ Dbs Dbt Dh Dhm Dwt, (⟨Dbs, Dbt, Dh, Dhm, Dwt⟩ : Plain.Out) = Plain.drop zs bt h hm wt dn := ⟨_, _, _, _, _, rfl⟩
      have HD := hide hD
      clear hD
      have HPT : Hid (0 < len → ap = some ⟨w2.heap.size, 0, none⟩ ∧ Cl w4 w2.heap.size 0 ps) := fun h0 => ⟨(HCP.out h0).1, (HCP.out h0).2.below bb⟩
      refine (zdrop_use2 w2.heap.size 0 w3.heap.size ap len cp ps abp lb cbp zs bt h hm wt dn _ (len - dn) ⟨Dbs, Dbt, Dh, Dhm, Dwt⟩ w4 rfl rfl HD.out (fun h0 _ => by have := (HCP.out h0).2.lt; omega) (by omega) (by omega) (by omega) (by omega) (by omega) HPL.out HPT.out hib HZ0.out).mono ?_
      rintro e w5 ⟨a1, c1, ab1, cb1', rfl, x1, x2, x3, x4, x5, x6, x7, x8, x9, x10, x11⟩
      have X := hide (And.intro x3 (And.intro x4 (And.intro x5 (And.intro x6 (And.intro x7 (And.intro x10 x11))))))
      clear x3 x4 x5 x6 x7 x10 x11 x8 x9
      have s1 := bw.size
      have s2 := bx.size
      have s3 := bp.size
      have s4 := bb.size
      have s5 := X.out.2.2.2.2.1.size
      have l0 : 0 < len → w.heap.size < w1.heap.size := fun h0 => (HCW.out h0).2.lt
      have HEN : Hid (Below w.heap.size w w5) := by
        have q4 : Below w.heap.size w w4 := ((bw.trans (bx.mono (by omega))).trans (bp.mono (by omega))).trans (bb.mono (by omega))
        exact q4.grown X.out.2.2.2.2.1 (by omega) (fun k hk => by unfold rowOf at hk; split at hk <;> cases hk; omega)
      have HCE : Hid (∀ t, t < dn → ap = some ⟨w2.heap.size, 0, none⟩ ∧ w5.cell? ⟨w2.heap.size, t, none⟩ = some (.slice none 0 0)) := fun t ht =>
        ⟨(HCP.out (by omega)).1, X.out.2.2.1 (by omega) t (by omega) (by omega)⟩
      have HQ : Hid (PIn w5 a1 (len - dn) (ps.drop dn)) := pIn_of (by have := HPL.out; simp; omega) X.out.2.1
      have HX : Hid (dn < len → aw = some ⟨w.heap.size, 0, none⟩ ∧ PIn w5 (some ⟨w.heap.size, dn, none⟩) (len - dn) (ps.drop dn)) := fun h0 => by
        have h1 : 0 < len := by omega
        obtain ⟨q1, q2⟩ := HCW.out h1
        have := l0 h1
        have q3 := ((q2.below bx).below bp).below bb
        have q4 := q3.kept X.out.2.2.2.2.1 (rowOf_kind HPT.out) (rowOf_ne fun _ => by omega)
        have q7 := q4.pIn_drop dn (by have := HPL.out; omega)
        rw [HPL.out, Nat.zero_add] at q7
        exact ⟨q1, q7⟩
      have HWB : Hid (IRow w5 w1.heap.size awb lb zs) := ((hix.below bp).below bb).grown X.out.2.2.2.2.1 (fun h0 => rowOf_ne fun _ => by have := HSX.out h0; omega)
      have HGB : Hid (IRow w5 w3.heap.size ab1 Dbs.length Dbs ∧ (Dbs = [] → ab1 = none)) := X.out.2.2.2.2.2
      have HN : Hid (∀ r : Nat, r = len - dn → (r = 0 → a1 = none) ∧ (0 < r → a1.isNone = false)) := fun r hr => by
        subst hr
        exact ⟨fun h0 => X.out.1 h0, fun h0 => by rw [(X.out.2.1 h0).1]; rfl⟩
      have HWZ := hide hwz
      have hzl : zs.length = lb := hz.len_eq
      have HZL := hide hzl
      clear X HPT HCP HCW HSB HSX hib hix l0 s1 s2 s3 s4 s5 bw bx bp bb hin hz hwz hnil hbnil hzl
      have hq30 := fun wx : World => run_neq_slice_nil_any (P := Try.prog) wx 30 5 none 0 0 0 0 Try.underlying30
      simp only [Option.isNone_none, Bool.not_true] at hq30
      go_wp2
      go_loop [24] (fun i => ∃ k : Nat, k ≤ dn ∧ i = .int .i64 k) (fun i => dn - (intOf i).toNat)
      case atStart => exact ⟨0, Nat.zero_le _, rfl⟩
      case round =>
        obtain ⟨t, ht, rfl⟩ := hrel
        by_cases htl : t < dn
        · obtain ⟨rfl, f1⟩ := HCE.out t htl
          have htl2 : (t : Int) < (len : Int) := by omega
          go_wp2
          go_round
          case rel => exact ⟨t + 1, by omega, by go_num⟩
          case measure => simp [intOf]; omega
        · clear HCE
          -- what fits
          obtain ⟨K, hK⟩ : ∃ K, K = Plain.fit zs dn := ⟨_, rfl⟩
          obtain ⟨S, hS⟩ : ∃ S, S = (zs.take K).sum := ⟨_, rfl⟩
          have HK := hide hK
          have HSm := hide hS
          have hSd : S ≤ dn := by rw [hS, hK]; exact Plain.fit_sum zs dn (by omega)
          have hS0 : 0 ≤ S := by rw [hS]; exact Plain.sum_nonneg _ (fun z hz' => HZ0.out z (List.mem_of_mem_take hz'))
          have hKl : K ≤ lb := by have := Plain.fit_le zs dn; have := HZL.out; omega
          clear hK hS
          by_cases hR : dn < len
          · have hR' : (dn : Int) < (len : Int) := by omega
            obtain ⟨rfl, hxp⟩ := HX.out hR
            have HXP := hide hxp
            have hse : ∀ wx : World, (Instr.sliceAt 22 (.slice (some ⟨w.heap.size, 0, none⟩) len cw) (some (.int .i64 (dn : Int))) none none).run Try.prog wx = .ok (.slice (some ⟨w.heap.size, dn, none⟩) (len - dn) (cw - dn)) wx := fun wx => by
              have := slice_from 22 30 Try.underlying22 size30 (some ⟨w.heap.size, 0, none⟩) len cw dn (by omega) wx
              rw [if_neg (by omega)] at this
              have e : (some (⟨w.heap.size, 0, none⟩ : Addr)).map (fun x => x.add dn) = some ⟨w.heap.size, dn, none⟩ := by simp [Addr.add]; omega
              rw [e] at this
              exact this
            have n1 := (HN.out _ rfl).2 (by omega)
            have HN' := hide n1
            have HSd : Hid (∀ bs, some bs ∈ ps.drop dn → bs.length ≤ 100000000) := fun bs hb => HS.out bs (List.mem_of_mem_drop hb)
            clear hxp HX n1 HN
            go_wp2_with fail
            refine (samePays_yes a1 (some ⟨w.heap.size, dn, none⟩) (len - dn) c1 (cw - dn) (ps.drop dn) w5 (by omega) (by rw [HN'.out]; rfl) HQ.out HXP.out HSd.out).mono ?_
            rintro e w6 ⟨rfl, q6, rfl⟩
            clear hse HQ HXP HSd HN' hR'
            go_wp2_with fail
            refine (fit_use w1.heap.size awb lb cwb zs dn K S _ HK.out HSm.out (by omega) (by omega) (by omega) (HWB.out.drewN _) HZ0.out HWZ.out).mono ?_
            rintro e w7 ⟨rfl, q7, rfl⟩
            by_cases hov : S < dn
            · have e := Plain.drop_over (zs := zs) (wt := wt) hbt hh hhm (by rw [← HK.out, ← HSm.out]; exact hov)
              rw [← HD.out] at e
              injection e with e1 e2 e3 e4 e5
              subst e1 e2 e3 e4 e5
              obtain rfl := HGB.out.2 rfl
              have hq23 := fun wx : World => Lib.run_eql_slice_nil (P := Try.prog) wx 23 3 none 0 cb1' 0 0 Try.underlying23
              simp only [Option.isNone_none] at hq23
              go_wp2
              go_ret
              exact ⟨rfl, HEN.out.trans (below_drawn _ _ _)⟩
            · have e := Plain.drop_even (zs := zs) (wt := wt) hbt hh hhm (by rw [← HK.out, ← HSm.out]; exact hov)
              rw [← HD.out, ← HK.out, ← HSm.out] at e
              injection e with e1 e2 e3 e4 e5
              have HE1 := hide e1
              have hDl : Dbs.length = lb - K := by rw [e1, List.length_drop, HZL.out]
              have hbH : h ≤ 9223372036854775807 := hh.2
              have hKc : (K : Int) ≤ (cwb : Int) := by omega
              subst e2 e5
              clear e1
              have HST : Hid (∀ m, m ≤ K → (zs.take m).sum ≤ 1000000000) := fun m hm' => by
                have := Plain.sum_take_le zs m K HZ0.out hm'
                have := HSm.out
                omega
              by_cases hKL : K < lb
              · have hKL' : (K : Int) < (lb : Int) := by omega
                obtain ⟨ia, ib⟩ := irow_drop HWB.out hKL cx1
                have hsk := slice_from 23 3 Try.underlying23 size3 awb lb cwb K (by omega)
                generalize (if cwb = K then awb else awb.map fun x => x.add K) = ae at ia ib hsk
                have HA2 : Hid (IRow w5 w1.heap.size ae (lb - K) Dbs) := by rw [HE1.out]; exact ia
                have HG2 : Hid (IRow w5 w3.heap.size ab1 (lb - K) Dbs) := by have := HGB.out.1; rw [hDl] at this; exact this
                have HNE : Hid (ab1.isNone = ae.isNone) := by
                  obtain ⟨_, e9, _⟩ := HG2.out.at_ (by omega)
                  show _ = _
                  rw [ib, e9]; rfl
                clear ia ib HGB
                by_cases h0 : 0 < h
                · rw [if_pos h0] at e3 e4
                  by_cases hq : h < K
                  · obtain ⟨hn, rfl⟩ := Int.eq_ofNat_of_zero_le (show 0 ≤ h by omega)
                    have eg : Plain.gone (hn : Int) K = hn := by unfold Plain.gone; rw [if_pos hq]; rfl
                    rw [eg] at e3 e4
                    have hnc : (hn : Int) ≤ (cwb : Int) := by omega
                    subst e3 e4
                    have HSu := hide (HST.out hn (by omega))
                    clear eg
                    go_wp2_with fail
                    refine (sum_any w1.heap.size awb hn cwb (zs.take hn) _ (by omega) (irow_take (HWB.out.drewN _) (by omega)) (fun z hz' => HZ0.out z (List.mem_of_mem_take hz')) HSu.out).mono ?_
                    rintro e w9 ⟨rfl, rfl⟩
                    go_wp2_with fail
                    refine (sameInts_yes ab1 ae (lb - K) cb1' (cwb - K) Dbs _ (by omega) HNE.out (irow_at (HG2.out.drewN _)) (irow_at (HA2.out.drewN _))).mono ?_
                    rintro e w8 ⟨rfl, q8, rfl⟩
                    go_wp2
                    go_ret
                    exact ⟨rfl, HEN.out.trans (below_drawn _ _ _)⟩
                  · have eg : Plain.gone h K = K := by unfold Plain.gone; rw [if_neg hq]
                    rw [eg] at e3 e4
                    subst e3 e4
                    have HSu := hide (HST.out K (Nat.le_refl _))
                    clear eg
                    go_wp2_with fail
                    refine (sum_any w1.heap.size awb K cwb (zs.take K) _ (by omega) (irow_take (HWB.out.drewN _) (by omega)) (fun z hz' => HZ0.out z (List.mem_of_mem_take hz')) HSu.out).mono ?_
                    rintro e w9 ⟨rfl, rfl⟩
                    go_wp2_with fail
                    refine (sameInts_yes ab1 ae (lb - K) cb1' (cwb - K) Dbs _ (by omega) HNE.out (irow_at (HG2.out.drewN _)) (irow_at (HA2.out.drewN _))).mono ?_
                    rintro e w8 ⟨rfl, q8, rfl⟩
                    go_wp2
                    go_ret
                    exact ⟨rfl, HEN.out.trans (below_drawn _ _ _)⟩
                · rw [if_neg h0] at e3 e4
                  subst e3 e4
                  go_wp2_with fail
                  refine (sameInts_yes ab1 ae (lb - K) cb1' (cwb - K) Dbs _ (by omega) HNE.out (irow_at (HG2.out.drewN _)) (irow_at (HA2.out.drewN _))).mono ?_
                  rintro e w8 ⟨rfl, q8, rfl⟩
                  go_wp2
                  go_ret
                  exact ⟨rfl, HEN.out.trans (below_drawn _ _ _)⟩
              · have hKL' : ¬ (K : Int) < (lb : Int) := by omega
                have hK0 : lb - K = 0 := by omega
                rw [hK0] at hDl
                obtain rfl := HGB.out.2 (List.eq_nil_of_length_eq_zero hDl)
                clear hK0 HGB
                by_cases h0 : 0 < h
                · rw [if_pos h0] at e3 e4
                  by_cases hq : h < K
                  · obtain ⟨hn, rfl⟩ := Int.eq_ofNat_of_zero_le (show 0 ≤ h by omega)
                    have eg : Plain.gone (hn : Int) K = hn := by unfold Plain.gone; rw [if_pos hq]; rfl
                    rw [eg] at e3 e4
                    have hnc : (hn : Int) ≤ (cwb : Int) := by omega
                    subst e3 e4
                    have HSu := hide (HST.out hn (by omega))
                    clear eg
                    go_wp2_with fail
                    refine (sum_any w1.heap.size awb hn cwb (zs.take hn) _ (by omega) (irow_take (HWB.out.drewN _) (by omega)) (fun z hz' => HZ0.out z (List.mem_of_mem_take hz')) HSu.out).mono ?_
                    rintro e w9 ⟨rfl, rfl⟩
                    go_wp2_with fail
                    refine (sameInts_yes none none 0 _ _ [] _ (by omega) rfl (fun h0 => by omega) (fun h0 => by omega)).mono ?_
                    rintro e w8 ⟨rfl, q8, rfl⟩
                    go_wp2
                    go_ret
                    exact ⟨rfl, HEN.out.trans (below_drawn _ _ _)⟩
                  · have eg : Plain.gone h K = K := by unfold Plain.gone; rw [if_neg hq]
                    rw [eg] at e3 e4
                    subst e3 e4
                    have HSu := hide (HST.out K (Nat.le_refl _))
                    clear eg
                    go_wp2_with fail
                    refine (sum_any w1.heap.size awb K cwb (zs.take K) _ (by omega) (irow_take (HWB.out.drewN _) (by omega)) (fun z hz' => HZ0.out z (List.mem_of_mem_take hz')) HSu.out).mono ?_
                    rintro e w9 ⟨rfl, rfl⟩
                    go_wp2_with fail
                    refine (sameInts_yes none none 0 _ _ [] _ (by omega) rfl (fun h0 => by omega) (fun h0 => by omega)).mono ?_
                    rintro e w8 ⟨rfl, q8, rfl⟩
                    go_wp2
                    go_ret
                    exact ⟨rfl, HEN.out.trans (below_drawn _ _ _)⟩
                · rw [if_neg h0] at e3 e4
                  subst e3 e4
                  go_wp2_with fail
                  refine (sameInts_yes none none 0 _ _ [] _ (by omega) rfl (fun h0 => by omega) (fun h0 => by omega)).mono ?_
                  rintro e w8 ⟨rfl, q8, rfl⟩
                  go_wp2
                  go_ret
                  exact ⟨rfl, HEN.out.trans (below_drawn _ _ _)⟩
          · have hR' : ¬ (dn : Int) < (len : Int) := by omega
            have hR0 : len - dn = 0 := by omega
            obtain rfl := (HN.out _ rfl).1 hR0
            clear HN HX HQ
            go_wp2_with fail
            refine (samePays_yes none none 0 _ _ [] w5 (by omega) rfl ⟨rfl, fun h0 => by omega⟩ ⟨rfl, fun h0 => by omega⟩ (by simp)).mono ?_
            rintro e w6 ⟨rfl, q6, rfl⟩
            go_wp2_with fail
            refine (fit_use w1.heap.size awb lb cwb zs dn K S _ HK.out HSm.out (by omega) (by omega) (by omega) (HWB.out.drewN _) HZ0.out HWZ.out).mono ?_
            rintro e w7 ⟨rfl, q7, rfl⟩
            by_cases hov : S < dn
            · have e := Plain.drop_over (zs := zs) (wt := wt) hbt hh hhm (by rw [← HK.out, ← HSm.out]; exact hov)
              rw [← HD.out] at e
              injection e with e1 e2 e3 e4 e5
              subst e1 e2 e3 e4 e5
              obtain rfl := HGB.out.2 rfl
              have hq23 := fun wx : World => Lib.run_eql_slice_nil (P := Try.prog) wx 23 3 none 0 cb1' 0 0 Try.underlying23
              simp only [Option.isNone_none] at hq23
              go_wp2
              go_ret
              exact ⟨rfl, HEN.out.trans (below_drawn _ _ _)⟩
            · have e := Plain.drop_even (zs := zs) (wt := wt) hbt hh hhm (by rw [← HK.out, ← HSm.out]; exact hov)
              rw [← HD.out, ← HK.out, ← HSm.out] at e
              injection e with e1 e2 e3 e4 e5
              have HE1 := hide e1
              have hDl : Dbs.length = lb - K := by rw [e1, List.length_drop, HZL.out]
              have hbH : h ≤ 9223372036854775807 := hh.2
              have hKc : (K : Int) ≤ (cwb : Int) := by omega
              subst e2 e5
              clear e1
              have HST : Hid (∀ m, m ≤ K → (zs.take m).sum ≤ 1000000000) := fun m hm' => by
                have := Plain.sum_take_le zs m K HZ0.out hm'
                have := HSm.out
                omega
              by_cases hKL : K < lb
              · have hKL' : (K : Int) < (lb : Int) := by omega
                obtain ⟨ia, ib⟩ := irow_drop HWB.out hKL cx1
                have hsk := slice_from 23 3 Try.underlying23 size3 awb lb cwb K (by omega)
                generalize (if cwb = K then awb else awb.map fun x => x.add K) = ae at ia ib hsk
                have HA2 : Hid (IRow w5 w1.heap.size ae (lb - K) Dbs) := by rw [HE1.out]; exact ia
                have HG2 : Hid (IRow w5 w3.heap.size ab1 (lb - K) Dbs) := by have := HGB.out.1; rw [hDl] at this; exact this
                have HNE : Hid (ab1.isNone = ae.isNone) := by
                  obtain ⟨_, e9, _⟩ := HG2.out.at_ (by omega)
                  show _ = _
                  rw [ib, e9]; rfl
                clear ia ib HGB
                by_cases h0 : 0 < h
                · rw [if_pos h0] at e3 e4
                  by_cases hq : h < K
                  · obtain ⟨hn, rfl⟩ := Int.eq_ofNat_of_zero_le (show 0 ≤ h by omega)
                    have eg : Plain.gone (hn : Int) K = hn := by unfold Plain.gone; rw [if_pos hq]; rfl
                    rw [eg] at e3 e4
                    have hnc : (hn : Int) ≤ (cwb : Int) := by omega
                    subst e3 e4
                    have HSu := hide (HST.out hn (by omega))
                    clear eg
                    go_wp2_with fail
                    refine (sum_any w1.heap.size awb hn cwb (zs.take hn) _ (by omega) (irow_take (HWB.out.drewN _) (by omega)) (fun z hz' => HZ0.out z (List.mem_of_mem_take hz')) HSu.out).mono ?_
                    rintro e w9 ⟨rfl, rfl⟩
                    go_wp2_with fail
                    refine (sameInts_yes ab1 ae (lb - K) cb1' (cwb - K) Dbs _ (by omega) HNE.out (irow_at (HG2.out.drewN _)) (irow_at (HA2.out.drewN _))).mono ?_
                    rintro e w8 ⟨rfl, q8, rfl⟩
                    go_wp2
                    go_ret
                    exact ⟨rfl, HEN.out.trans (below_drawn _ _ _)⟩
                  · have eg : Plain.gone h K = K := by unfold Plain.gone; rw [if_neg hq]
                    rw [eg] at e3 e4
                    subst e3 e4
                    have HSu := hide (HST.out K (Nat.le_refl _))
                    clear eg
                    go_wp2_with fail
                    refine (sum_any w1.heap.size awb K cwb (zs.take K) _ (by omega) (irow_take (HWB.out.drewN _) (by omega)) (fun z hz' => HZ0.out z (List.mem_of_mem_take hz')) HSu.out).mono ?_
                    rintro e w9 ⟨rfl, rfl⟩
                    go_wp2_with fail
                    refine (sameInts_yes ab1 ae (lb - K) cb1' (cwb - K) Dbs _ (by omega) HNE.out (irow_at (HG2.out.drewN _)) (irow_at (HA2.out.drewN _))).mono ?_
                    rintro e w8 ⟨rfl, q8, rfl⟩
                    go_wp2
                    go_ret
                    exact ⟨rfl, HEN.out.trans (below_drawn _ _ _)⟩
                · rw [if_neg h0] at e3 e4
                  subst e3 e4
                  go_wp2_with fail
                  refine (sameInts_yes ab1 ae (lb - K) cb1' (cwb - K) Dbs _ (by omega) HNE.out (irow_at (HG2.out.drewN _)) (irow_at (HA2.out.drewN _))).mono ?_
                  rintro e w8 ⟨rfl, q8, rfl⟩
                  go_wp2
                  go_ret
                  exact ⟨rfl, HEN.out.trans (below_drawn _ _ _)⟩
              · have hKL' : ¬ (K : Int) < (lb : Int) := by omega
                have hK0 : lb - K = 0 := by omega
                rw [hK0] at hDl
                obtain rfl := HGB.out.2 (List.eq_nil_of_length_eq_zero hDl)
                clear hK0 HGB
                by_cases h0 : 0 < h
                · rw [if_pos h0] at e3 e4
                  by_cases hq : h < K
                  · obtain ⟨hn, rfl⟩ := Int.eq_ofNat_of_zero_le (show 0 ≤ h by omega)
                    have eg : Plain.gone (hn : Int) K = hn := by unfold Plain.gone; rw [if_pos hq]; rfl
                    rw [eg] at e3 e4
                    have hnc : (hn : Int) ≤ (cwb : Int) := by omega
                    subst e3 e4
                    have HSu := hide (HST.out hn (by omega))
                    clear eg
                    go_wp2_with fail
                    refine (sum_any w1.heap.size awb hn cwb (zs.take hn) _ (by omega) (irow_take (HWB.out.drewN _) (by omega)) (fun z hz' => HZ0.out z (List.mem_of_mem_take hz')) HSu.out).mono ?_
                    rintro e w9 ⟨rfl, rfl⟩
                    go_wp2_with fail
                    refine (sameInts_yes none none 0 _ _ [] _ (by omega) rfl (fun h0 => by omega) (fun h0 => by omega)).mono ?_
                    rintro e w8 ⟨rfl, q8, rfl⟩
                    go_wp2
                    go_ret
                    exact ⟨rfl, HEN.out.trans (below_drawn _ _ _)⟩
                  · have eg : Plain.gone h K = K := by unfold Plain.gone; rw [if_neg hq]
                    rw [eg] at e3 e4
                    subst e3 e4
                    have HSu := hide (HST.out K (Nat.le_refl _))
                    clear eg
                    go_wp2_with fail
                    refine (sum_any w1.heap.size awb K cwb (zs.take K) _ (by omega) (irow_take (HWB.out.drewN _) (by omega)) (fun z hz' => HZ0.out z (List.mem_of_mem_take hz')) HSu.out).mono ?_
                    rintro e w9 ⟨rfl, rfl⟩
                    go_wp2_with fail
                    refine (sameInts_yes none none 0 _ _ [] _ (by omega) rfl (fun h0 => by omega) (fun h0 => by omega)).mono ?_
                    rintro e w8 ⟨rfl, q8, rfl⟩
                    go_wp2
                    go_ret
                    exact ⟨rfl, HEN.out.trans (below_drawn _ _ _)⟩
                · rw [if_neg h0] at e3 e4
                  subst e3 e4
                  go_wp2_with fail
                  refine (sameInts_yes none none 0 _ _ [] _ (by omega) rfl (fun h0 => by omega) (fun h0 => by omega)).mono ?_
                  rintro e w8 ⟨rfl, q8, rfl⟩
                  go_wp2
                  go_ret
                  exact ⟨rfl, HEN.out.trans (below_drawn _ _ _)⟩
end Go.Proofs.Qxb6617798a.closed
