/-
  Seat b6617798a: the walk of 'FnOutboxDropTwiceAtBoundary' (function 4), out of its callees' contracts.
-/
import Derived.Test.Qxb6617798aUse2
import Derived.Test.Qxb6617798aSameP
import Derived.Test.Qxb6617798aBounds
import Derived.Test.Qxb6617798aPlainT
import Derived.WalkSpells
namespace Go.Proofs.Qxb6617798a.twice
open Go.RowKit

theorem get_mem {zs : List Int} {k : Nat} (h : k < zs.length) : zs.getD k 0 ∈ zs := by
  have : zs.getD k 0 = zs[k] := by simp [List.getD, h]
  rw [this]; exact List.getElem_mem h

theorem irow_at {w : World} {gb : Nat} {a : Option Addr} {len : Nat} {zs : List Int} (h : IRow w gb a len zs) : 0 < len → ∃ b off, a = some ⟨b, off, none⟩ ∧ ∀ j, j < len → w.cell? ⟨b, off + j, none⟩ = some (.int .i64 (zs.getD j 0)) := fun h0 => by
  obtain ⟨off, e, hc⟩ := h.at_ h0
  exact ⟨gb, off, e, hc⟩

theorem below_drawn (B : Nat) (w : World) (q : Nat) : Below B w (w.drewN q) := ⟨rfl, rfl, rfl, Nat.le_refl _, fun _ _ => rfl⟩

theorem sum_take_succ {zs : List Int} {k : Nat} (h : k < zs.length) : (zs.take (k + 1)).sum = (zs.take k).sum + zs.getD k 0 := by
  have e : zs.getD k 0 = zs[k] := by simp [List.getD, h]
  rw [List.take_succ_eq_append_getElem h, List.sum_append, e]
  simp

set_option maxHeartbeats 8000000 in
set_option maxRecDepth 100000 in
theorem walk (a : Option Addr) (len cap : Nat) (ps : List (Option (List Int))) (gb : Nat) (ab : Option Addr) (lb cb : Nat) (zs : List Int) (bt h hm wt jj more : Int) (w : World)
    (hl : len ≤ maxLen) (hlb : lb ≤ maxLen) (hnil : a = none → len = 0) (hbnil : ab = none → lb = 0) (hin : PIn w a len ps) (hz : IRow w gb ab lb zs) (hwz : ∀ z ∈ zs, z ≤ 9223372036854775807) (hwj : jj ≤ 9223372036854775807) (hwm : more ≤ 9223372036854775807) :
    Calls Try.prog 4 #[.slice a len cap, .slice ab lb cb, .int .i64 bt, .int .i64 h, .int .i64 hm, .int .i64 wt, .int .i64 jj, .int .i64 more] w fun e w' => e = .returned (.bool true) ∧ Below w.heap.size w w' := by
  go_enter Try.func4, Try.ntmps4
  go_wp2_with fail
  refine (zz14_any a len cap ps ab lb cb bt h hm wt jj more w hl hlb hin).mono ?_
  rintro e w' ⟨b, rfl, rfl, hsm0⟩
  cases b
  · go_wp2
    go_ret
    exact ⟨rfl, Below.refl _ _⟩
  have hsm := hsm0 rfl
  clear hsm0
  go_wp2_with fail
  refine (over_any a len cap ps ab lb cb w hl hlb hin hsm).mono ?_
  rintro e w' ⟨b, rfl, rfl, hov⟩
  cases b
  case true =>
    go_wp2
    go_ret
    exact ⟨rfl, Below.refl _ _⟩
  obtain ⟨hl1, hl2⟩ := hov rfl
  have HS : Hid (∀ bs, some bs ∈ ps → bs.length ≤ 100000000) := fun bs hb => by have := hsm bs hb; omega
  clear hsm hov hl hlb
  go_wp2
  go_loop [17] (fun i => ∃ k : Nat, k ≤ lb ∧ i = .int .i64 k ∧ ∀ j, j < k → 0 ≤ zs.getD j 0) (fun i => lb - (intOf i).toNat)
  case atStart => exact ⟨0, Nat.zero_le _, rfl, fun j hj => by omega⟩
  case round =>
    obtain ⟨k, hk, rfl, hpos⟩ := hrel
    have HP := hide hpos
    clear hpos
    by_cases hlt : k < lb
    · obtain ⟨off, rfl, hcell⟩ := hz.at_ (by omega)
      have hck := hcell k hlt
      generalize hzk : zs.getD k 0 = z at hck
      have HZ := hide hzk
      clear hzk hcell
      by_cases hneg : z < 0
      · go_wp2
        go_ret
        exact ⟨rfl, Below.refl _ _⟩
      · go_wp2
        go_round
        case rel => exact ⟨k + 1, by omega, by go_num, fun j hj => by
          by_cases hjk : j = k
          · subst hjk; rw [HZ.out]; omega
          · exact HP.out j (by omega)⟩
        case measure => simp [intOf]; omega
    · have hz0 : ∀ z ∈ zs, 0 ≤ z := fun z hzz => by
        obtain ⟨j, hj, e⟩ := List.getElem_of_mem hzz
        have := HP.out j (by have := hz.len_eq; omega)
        rw [← e]
        simpa [List.getD, hj] using this
      have HZ0 := hide hz0
      clear hz0 HP
      by_cases hj0 : jj < 0
      · go_wp2
        go_ret
        exact ⟨rfl, Below.refl _ _⟩
      obtain ⟨J, rfl⟩ := Int.eq_ofNat_of_zero_le (Int.not_lt.1 hj0)
      by_cases hj1 : lb < J
      · go_wp2
        go_ret
        exact ⟨rfl, Below.refl _ _⟩
      go_wp2
      go_loop [18, 19] (fun t i => ∃ (k : Nat) (s : Int), k ≤ J ∧ i = .int .i64 k ∧ t = .int .i64 s ∧ 0 ≤ s ∧ s ≤ len ∧ s = (zs.take k).sum) (fun _ i => J - (intOf i).toNat)
      case atStart => exact ⟨0, 0, Nat.zero_le _, rfl, rfl, by omega, by omega, by simp⟩
      case round =>
        obtain ⟨i, s, hi, rfl, rfl, hs0, hs1, hsum⟩ := hrel
        have HSum := hide hsum
        clear hsum
        by_cases hiJ : i < J
        · obtain ⟨off, rfl, hcell⟩ := hz.at_ (by omega)
          have hck := hcell i (by omega)
          have hmem := get_mem (zs := zs) (k := i) (by have := hz.len_eq; omega)
          have hz1 := HZ0.out _ hmem
          have hz2 := hwz _ hmem
          have hsu := sum_take_succ (zs := zs) (k := i) (by have := hz.len_eq; omega)
          rw [← HSum.out] at hsu
          have HSu := hide hsu
          clear hcell hsu hmem
          generalize zs.getD i 0 = z at hck hz1 hz2 HSu
          by_cases hfit : len - s < z
          · go_wp2
            go_ret
            exact ⟨rfl, Below.refl _ _⟩
          · go_wp2
            go_round
            case rel => exact ⟨i + 1, s + z, by omega, by go_num, rfl, by omega, by omega, HSu.out.symm⟩
            case measure => simp [intOf]; omega
        · obtain rfl : i = J := by omega
          obtain ⟨A, rfl⟩ := Int.eq_ofNat_of_zero_le hs0
          by_cases hm0 : more < 0
          · go_wp2
            go_ret
            exact ⟨rfl, Below.refl _ _⟩
          obtain ⟨M, rfl⟩ := Int.eq_ofNat_of_zero_le (Int.not_lt.1 hm0)
          by_cases hm1 : len < A + M
          · go_wp2
            go_ret
            exact ⟨rfl, Below.refl _ _⟩
          have hpl := hin.len_eq
          have HPL := hide hpl
          clear hpl
          -- want
          go_wp2_with fail
          refine (clonePays_any a len cap ps w (by omega) hin hnil HS.out).mono ?_
          rintro e w1 ⟨aw, cw, rfl, cw1, cw2, cwn, bw, hcw⟩
          have HNW : Hid (aw = none → len = 0) := fun e => hnil (by rw [e] at cwn; exact Option.isNone_iff_eq_none.1 cwn.symm)
          have HCW := hide hcw
          clear cwn hcw
          -- payloads
          go_wp2_with fail
          refine (clonePays_any a len cap ps w1 (by omega) (hin.below bw) hnil HS.out).mono ?_
          rintro e w2 ⟨ap, cp, rfl, cp1, cp2, cpn, bp, hcp⟩
          have HCP := hide hcp
          clear cpn hcp
          -- batches
          go_wp2_with fail
          refine (cloneInts_any gb ab lb cb zs w2 (by omega) ((hz.below bw).below bp) hbnil).mono ?_
          rintro e w3 ⟨abp, cbp, rfl, cb1, cb2, bb, hsb, hib⟩
          have HSB := hide hsb
          clear hsb
          -- two
          go_wp2_with fail
          refine (clonePays_any aw len cw ps w3 (by omega) (pIn_of HPL.out (fun h0 => ⟨(HCW.out h0).1, (((HCW.out h0).2.below bp).below bb)⟩)) HNW.out HS.out).mono ?_
          rintro e w4 ⟨at', ct, rfl, ct1, ct2, ctn, bt4, hct⟩
          have HCT := hide hct
          clear ctn hct
          -- batchesTwo
          go_wp2_with fail
          refine (cloneInts_any w2.heap.size abp lb cbp zs w4 (by omega) (hib.below bt4) hib.nil_len).mono ?_
          rintro e w5 ⟨abt, cbt, rfl, cd1, cd2, bd, hsd, hid⟩
          have HSD := hide hsd
          clear hsd
          -- the first drop
          go_wp2_with fail
          obtain ⟨D1, hD1⟩ : ∃ D1, D1 = Plain.drop zs bt h hm wt A := ⟨_, rfl⟩
          have HD1 := hide hD1
          clear hD1
          have HPT : Hid (0 < len → at' = some ⟨w3.heap.size, 0, none⟩ ∧ Cl w5 w3.heap.size 0 ps) := fun h0 => ⟨(HCT.out h0).1, (HCT.out h0).2.below bd⟩
          refine (zdrop_use2 w3.heap.size 0 w4.heap.size at' len ct ps abt lb cbt zs bt h hm wt A _ (len - A) D1 w5 rfl rfl HD1.out (fun h0 _ => by have := (HCT.out h0).2.lt; omega) (by omega) (by omega) (by omega) (by omega) (by omega) HPL.out HPT.out hid HZ0.out).mono ?_
          rintro e w6 ⟨a1, c1, ab1, cb1', rfl, x1, x2, x3, x4, x5, x6, x7, x8, x9, x10, x11⟩
          have X := hide (And.intro x3 (And.intro x4 (And.intro x5 (And.intro x6 (And.intro x7 (And.intro x10 x11))))))
          clear x3 x4 x5 x6 x7 x10 x11
          -- the second drop
          go_wp2_with fail
          obtain ⟨D2, hD2⟩ : ∃ D2, D2 = Plain.drop D1.bs D1.bt D1.h D1.hm D1.wt M := ⟨_, rfl⟩
          have HD2 := hide hD2
          clear hD2
          have HTW := hide (Plain.drop_twice zs bt h hm wt i (M : Int) HZ0.out (by omega) (A : Int) HSum.out)
          refine (zdrop_use2 w3.heap.size (0 + A) w4.heap.size a1 (len - A) c1 (ps.drop A) ab1 D1.bs.length cb1' D1.bs D1.bt D1.h D1.hm D1.wt M _ (len - (A + M)) D2 w6 rfl (by omega) HD2.out (fun h0 _ => by have := (HCT.out (by omega)).2.lt; omega) (by omega) x1 x2 x8 x9 (by have := HPL.out; simp; omega) X.out.2.1 X.out.2.2.2.2.2.1 (by rw [HD1.out]; exact HTW.out.2)).mono ?_
          rintro e w7 ⟨a2, c2, ab2, cb2', rfl, y1, y2, y3, y4, y5, y6, y7, y8, y9, y10, y11⟩
          have Y := hide (And.intro y3 (And.intro y4 (And.intro y5 (And.intro y6 (And.intro y7 (And.intro y10 y11))))))
          clear y3 y4 y5 y6 y7 y10 y11
          -- the drop at once
          go_wp2_with fail
          have HD3 : Hid (D2 = Plain.drop zs bt h hm wt ((A + M : Nat) : Int)) := by
            have := HTW.out.1
            rw [← HD1.out, ← HD2.out] at this
            rw [show (((A + M : Nat) : Int)) = (A : Int) + (M : Int) by omega]
            exact this
          have s1 := bw.size
          have s2 := bp.size
          have s3 := bb.size
          have s4 := bt4.size
          have s5 := bd.size
          have s6 := X.out.2.2.2.2.1.size
          have s7 := Y.out.2.2.2.2.1.size
          have HPP : Hid (0 < len → ap = some ⟨w1.heap.size, 0, none⟩ ∧ Cl w7 w1.heap.size 0 ps) := fun h0 => by
            obtain ⟨q1, q2⟩ := HCP.out h0
            have l1 := q2.lt
            have q3 := ((q2.below bb).below bt4).below bd
            have q4 := q3.kept X.out.2.2.2.2.1 (rowOf_kind HPT.out) (rowOf_ne fun _ => by omega)
            exact ⟨q1, q4.kept Y.out.2.2.2.2.1 (rowOf_kind X.out.2.1) (rowOf_ne fun _ => by omega)⟩
          have HIB : Hid (IRow w7 w2.heap.size abp lb zs) := by
            have q3 := (hib.below bt4).below bd
            have q4 := q3.grown X.out.2.2.2.2.1 (fun h0 => rowOf_ne fun _ => by have := HSB.out h0; omega)
            exact q4.grown Y.out.2.2.2.2.1 (fun h0 => rowOf_ne fun _ => by have := HSB.out h0; omega)
          refine (zdrop_use2 w1.heap.size 0 w2.heap.size ap len cp ps abp lb cbp zs bt h hm wt (A + M) _ (len - (A + M)) D2 w7 (by omega) rfl HD3.out (fun h0 _ => by have := (HCP.out h0).2.lt; omega) (by omega) (by omega) (by omega) (by omega) (by omega) HPL.out HPP.out HIB.out HZ0.out).mono ?_
          rintro e w8 ⟨a3, c3, ab3, cb3', rfl, z1, z2, z3, z4, z5, z6, z7, z8, z9, z10, z11⟩
          have Z := hide (And.intro z3 (And.intro z4 (And.intro z5 (And.intro z6 (And.intro z7 (And.intro z10 z11))))))
          clear z3 z4 z5 z6 z7 z10 z11
          have s8 := Z.out.2.2.2.2.1.size
          have l0 : 0 < len → w.heap.size < w1.heap.size := fun h0 => (HCW.out h0).2.lt
          have l1 : 0 < len → w1.heap.size < w2.heap.size := fun h0 => (HCP.out h0).2.lt
          have l3 : 0 < len → w3.heap.size < w4.heap.size := fun h0 => (HCT.out h0).2.lt
          have HEN : Hid (Below w.heap.size w w8) := by
            have q5 : Below w.heap.size w w5 := (((bw.trans (bp.mono (by omega))).trans (bb.mono (by omega))).trans (bt4.mono (by omega))).trans (bd.mono (by omega))
            have q6 := q5.grown X.out.2.2.2.2.1 (by omega) (fun k hk => by unfold rowOf at hk; split at hk <;> cases hk; omega)
            have q7 := q6.grown Y.out.2.2.2.2.1 (by omega) (fun k hk => by unfold rowOf at hk; split at hk <;> cases hk; omega)
            exact q7.grown Z.out.2.2.2.2.1 (by omega) (fun k hk => by unfold rowOf at hk; split at hk <;> cases hk; omega)
          have HCE : Hid (∀ t, t < A + M → ap = some ⟨w1.heap.size, 0, none⟩ ∧ at' = some ⟨w3.heap.size, 0, none⟩ ∧ w8.cell? ⟨w1.heap.size, t, none⟩ = some (.slice none 0 0) ∧ w8.cell? ⟨w3.heap.size, t, none⟩ = some (.slice none 0 0)) := fun t ht => by
            have h0 : 0 < len := by omega
            refine ⟨(HCP.out h0).1, (HCT.out h0).1, Z.out.2.2.1 h0 t (by omega) (by omega), ?_⟩
            have ne : some w3.heap.size ≠ rowOf len w1.heap.size := fun e => rowOf_ne (fun _ => by have := l1 h0; omega) e.symm
            refine Z.out.2.2.2.2.1.cell ?_ ne
            by_cases htA : t < A
            · have c6 := X.out.2.2.1 h0 t (by omega) (by omega)
              by_cases h1 : 0 < len - A
              · rw [Y.out.2.2.2.1 h1 t (by omega)]; exact c6
              · refine Y.out.2.2.2.2.1.cell c6 (fun e => ?_)
                unfold rowOf at e
                rw [if_neg h1] at e
                cases e
            · exact Y.out.2.2.1 (by omega) t (by omega) (by omega)
          obtain ⟨R, hR⟩ : ∃ R, R = len - (A + M) := ⟨_, rfl⟩
          have HQ3 : Hid (PIn w8 a3 (len - (A + M)) (ps.drop (A + M))) := by
            refine pIn_of (by have := HPL.out; simp; omega) Z.out.2.1
          have HP2 : Hid (PIn w8 a2 (len - (A + M)) (ps.drop (A + M))) := by
            refine pIn_of (g := w3.heap.size) (o := 0 + A + M) (by have := HPL.out; simp; omega) (fun h0 => ?_)
            obtain ⟨q1, q2⟩ := Y.out.2.1 h0
            rw [List.drop_drop] at q2
            exact ⟨q1, q2.kept Z.out.2.2.2.2.1 (rowOf_kind HPP.out) (rowOf_ne fun h1 => by have := l1 h1; omega)⟩
          have HX : Hid (A + M < len → aw = some ⟨w.heap.size, 0, none⟩ ∧ PIn w8 (some ⟨w.heap.size, A + M, none⟩) (len - (A + M)) (ps.drop (A + M))) := fun h0 => by
            have h1 : 0 < len := by omega
            obtain ⟨q1, q2⟩ := HCW.out h1
            have := l0 h1
            have q3 := (((q2.below bp).below bb).below bt4).below bd
            have q4 := q3.kept X.out.2.2.2.2.1 (rowOf_kind HPT.out) (rowOf_ne fun _ => by omega)
            have q5 := q4.kept Y.out.2.2.2.2.1 (rowOf_kind X.out.2.1) (rowOf_ne fun _ => by omega)
            have q6 := q5.kept Z.out.2.2.2.2.1 (rowOf_kind HPP.out) (rowOf_ne fun _ => by omega)
            have q7 := q6.pIn_drop (A + M) (by have := HPL.out; omega)
            rw [HPL.out, Nat.zero_add] at q7
            exact ⟨q1, q7⟩
          have HI2 : Hid (IRow w8 w4.heap.size ab2 D2.bs.length D2.bs) := Y.out.2.2.2.2.2.1.grown Z.out.2.2.2.2.1 (fun _ => rowOf_ne fun h1 => by have := l1 h1; omega)
          have HI3 : Hid (IRow w8 w2.heap.size ab3 D2.bs.length D2.bs) := Z.out.2.2.2.2.2.1
          have HNI : Hid (ab2.isNone = ab3.isNone) := by
            show _ = _
            cases hbs : D2.bs with
            | nil => rw [Y.out.2.2.2.2.2.2 hbs, Z.out.2.2.2.2.2.2 hbs]
            | cons z zs' =>
              obtain ⟨_, e2, _⟩ := HI2.out.at_ (by rw [hbs]; simp)
              obtain ⟨_, e3, _⟩ := HI3.out.at_ (by rw [hbs]; simp)
              rw [e2, e3]; rfl
          have HN3 : Hid (∀ r : Nat, r = len - (A + M) → (r = 0 → a3 = none ∧ a2 = none) ∧ (0 < r → a3.isNone = false ∧ a2.isNone = false)) := fun r hr => by
            subst hr
            exact ⟨fun h0 => ⟨Z.out.1 h0, Y.out.1 h0⟩, fun h0 => ⟨by rw [(Z.out.2.1 h0).1]; rfl, by rw [(Y.out.2.1 h0).1]; rfl⟩⟩
          clear X Y Z HPP HIB HPT HCT HCP HCW HD1 HD2 HD3 HTW HSB HSD HNW hib hid l0 l1 l3 s1 s2 s3 s4 s5 s6 s7 s8 bw bp bb bt4 bd hin hz hwz hnil hbnil hR R
          have hq30 := fun wx : World => run_neq_slice_nil_any (P := Try.prog) wx 30 5 none 0 0 0 0 Try.underlying30
          simp only [Option.isNone_none, Bool.not_true] at hq30
          go_wp2
          go_loop [41] (fun i => ∃ k : Nat, k ≤ A + M ∧ i = .int .i64 k) (fun i => A + M - (intOf i).toNat)
          case atStart => exact ⟨0, Nat.zero_le _, rfl⟩
          case round =>
            obtain ⟨t, ht, rfl⟩ := hrel
            by_cases htl : t < A + M
            · obtain ⟨rfl, rfl, f1, f2⟩ := HCE.out t htl
              have htl' : (t : Int) < (A : Int) + (M : Int) := by omega
              have htl2 : (t : Int) < (len : Int) := by omega
              go_wp2
              go_round
              case rel => exact ⟨t + 1, by omega, by go_num⟩
              case measure => simp [intOf]; omega
            · have htl' : ¬ (t : Int) < (A : Int) + (M : Int) := by omega
              by_cases hR : A + M < len
              · have hR' : (A : Int) + (M : Int) < (len : Int) := by omega
                obtain ⟨rfl, hxp⟩ := HX.out hR
                have HXP := hide hxp
                have hse : ∀ wx : World, (Instr.sliceAt 22 (.slice (some ⟨w.heap.size, 0, none⟩) len cw) (some (.int .i64 ((A : Int) + (M : Int)))) none none).run Try.prog wx = .ok (.slice (some ⟨w.heap.size, A + M, none⟩) (len - (A + M)) (cw - (A + M))) wx := fun wx => by
                  have := slice_from 22 30 Try.underlying22 size30 (some ⟨w.heap.size, 0, none⟩) len cw (A + M) (by omega) wx
                  rw [if_neg (by omega)] at this
                  rw [show (((A + M : Nat) : Int)) = (A : Int) + (M : Int) by omega] at this
                  have e : (some (⟨w.heap.size, 0, none⟩ : Addr)).map (fun x => x.add (A + M)) = some ⟨w.heap.size, A + M, none⟩ := by simp [Addr.add]; omega
                  rw [e] at this
                  exact this
                obtain ⟨n3, n2⟩ := (HN3.out _ rfl).2 (by omega)
                have HN3' := hide n3
                have HN2' := hide n2
                have HSd : Hid (∀ bs, some bs ∈ ps.drop (A + M) → bs.length ≤ 100000000) := fun bs hb => HS.out bs (List.mem_of_mem_drop hb)
                clear hxp HX n3 n2 HN3 HCE
                go_wp2_with fail
                refine (samePays_yes a3 (some ⟨w.heap.size, A + M, none⟩) (len - (A + M)) c3 (cw - (A + M)) (ps.drop (A + M)) w8 (by omega) (by rw [HN3'.out]; rfl) HQ3.out HXP.out HSd.out).mono ?_
                rintro e w9 ⟨rfl, q9, rfl⟩
                go_wp2_with fail
                refine (samePays_yes a2 (some ⟨w.heap.size, A + M, none⟩) (len - (A + M)) c2 (cw - (A + M)) (ps.drop (A + M)) (w8.drewN q9) (by omega) (by rw [HN2'.out]; rfl) (HP2.out.drewN _) (HXP.out.drewN _) HSd.out).mono ?_
                rintro e w10 ⟨rfl, q10, rfl⟩
                go_wp2_with fail
                refine (sameInts_yes ab2 ab3 D2.bs.length cb2' cb3' D2.bs _ (by omega) HNI.out (irow_at (HI2.out.drewN _)) (irow_at (HI3.out.drewN _))).mono ?_
                rintro e w11 ⟨rfl, q11, rfl⟩
                go_wp2
                go_ret
                exact ⟨rfl, HEN.out.trans (below_drawn _ _ _)⟩
              · have hR' : ¬ (A : Int) + (M : Int) < (len : Int) := by omega
                have hR0 : len - (A + M) = 0 := by omega
                obtain ⟨rfl, rfl⟩ := (HN3.out _ rfl).1 hR0
                clear HN3 HCE HX HQ3 HP2
                go_wp2_with fail
                refine (samePays_yes none none 0 _ _ [] w8 (by omega) rfl ⟨rfl, fun h0 => by omega⟩ ⟨rfl, fun h0 => by omega⟩ (by simp)).mono ?_
                rintro e w9 ⟨rfl, q9, rfl⟩
                go_wp2_with fail
                refine (samePays_yes none none 0 _ _ [] _ (by omega) rfl ⟨rfl, fun h0 => by omega⟩ ⟨rfl, fun h0 => by omega⟩ (by simp)).mono ?_
                rintro e w10 ⟨rfl, q10, rfl⟩
                go_wp2_with fail
                refine (sameInts_yes ab2 ab3 D2.bs.length cb2' cb3' D2.bs _ (by omega) HNI.out (irow_at (HI2.out.drewN _)) (irow_at (HI3.out.drewN _))).mono ?_
                rintro e w11 ⟨rfl, q11, rfl⟩
                go_wp2
                go_ret
                exact ⟨rfl, HEN.out.trans (below_drawn _ _ _)⟩
end Go.Proofs.Qxb6617798a.twice
