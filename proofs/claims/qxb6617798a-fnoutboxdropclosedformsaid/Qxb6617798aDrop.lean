/-
  Seat b6617798a: '(*outbox).drop' (function 16): its contract.
-/
import Derived.Test.Qxb6617798aMem
import Derived.BigRegion
namespace Go.Proofs.Qxb6617798a
open Go.RowKit

/-- What the first statement of 'drop' leaves: the first 'done' cells of the payloads' row cleared. -/
theorem clear_run (w : World) (a : Option Addr) (n c done g o : Nat) (hdn : done ≤ n) (hp : 0 < n → a = some ⟨g, o, none⟩ ∧ ∃ cur, w.heap[g]? = some (.cells cur 30 (0, 0)) ∧ o + n ≤ cur.size) :
    ∃ w1, (∀ ty, (Builtin.clear_ #[22] ty #[.slice a done c]).run Try.prog w = .ok (.tuple #[]) w1) ∧ Only g w w1 ∧
      (∀ cur, w.heap[g]? = some (.cells cur 30 (0, 0)) → o + n ≤ cur.size → ∃ cur', w1.heap[g]? = some (.cells cur' 30 (0, 0)) ∧ cur'.size = cur.size ∧ ∀ j, cur'[j]? = if o ≤ j ∧ j < o + done then some (.slice none 0 0) else cur[j]?) := by
  rcases Nat.eq_zero_or_pos done with h0 | h0
  · subst h0
    refine ⟨w, fun ty => ?_, Only.refl _ _, fun cur hc _ => ⟨cur, hc, rfl, fun j => ?_⟩⟩
    · cases a <;> simp [Builtin.clear_, run_underlying Try.underlying22]
    · rw [if_neg (by omega)]
  · obtain ⟨rfl, cur0, hg0, hs0⟩ := hp (by omega)
    refine ⟨w.setCells g o (List.replicate done (.slice none 0 0)), fun ty => ?_, Only.setCells _ _ (Only.refl _ _), fun cur hc hs => ?_⟩
    · refine Lib.run_clear_slice w 22 30 ty (.slice none 0 0) Try.underlying22 zero30 rfl rfl g o done c h0 (fun j hj => ?_) (fun j hj => frozen_of_row _ _ _ _ _ hg0)
      rw [cell_of_row _ _ _ _ _ _ hg0]
      simp; omega
    · clear hg0 hs0 hp
      have key : ∀ (d o : Nat) (w : World) (cur : Array Value), w.heap[g]? = some (.cells cur 30 (0, 0)) → o + d ≤ cur.size →
          ∃ cur', (w.setCells g o (List.replicate d (.slice none 0 0))).heap[g]? = some (.cells cur' 30 (0, 0)) ∧ cur'.size = cur.size ∧ ∀ j, cur'[j]? = if o ≤ j ∧ j < o + d then some (.slice none 0 0) else cur[j]? := by
        intro d
        induction d with
        | zero => intro o w cur hc _; exact ⟨cur, hc, rfl, fun j => by rw [if_neg (by omega)]⟩
        | succ d ih =>
          intro o w cur hc hs
          obtain ⟨cur', h1, h2, h3⟩ := ih (o + 1) (w.setCell ⟨g, o, none⟩ (.slice none 0 0)) _ (heap_setCell_same _ _ _ _ _ _ hc) (by simp; omega)
          refine ⟨cur', h1, by simpa using h2, fun j => ?_⟩
          rw [h3 j]
          by_cases e1 : o + 1 ≤ j ∧ j < o + 1 + d
          · rw [if_pos e1, if_pos (by omega)]
          · rw [if_neg e1]
            by_cases e2 : j = o
            · subst e2
              rw [if_pos (by omega)]
              simp [Array.getElem?_setIfInBounds]; omega
            · rw [if_neg (by omega), Array.getElem?_setIfInBounds, if_neg (by omega)]
      exact key done o w cur hc (by omega)

/-- A slice of ints that 'drop' hands back: nil where nothing is left. -/
structure BV (w : World) (gb : Nat) (v : Value) (bs : List Int) : Prop where
  out : ∃ a len c, v = .slice a len c ∧ len ≤ c ∧ c ≤ 1000000000 ∧ IRow w gb a len bs ∧ (bs = [] → a = none ∧ c = 0)

theorem BV.nil (w : World) (gb : Nat) : BV w gb (.slice none 0 0) [] := ⟨⟨none, 0, 0, rfl, Nat.le_refl _, by omega, ⟨rfl, fun h => by omega⟩, fun _ => ⟨rfl, rfl⟩⟩⟩

/-- What 'drop' leaves. -/
def DropPost (B g o gb n c : Nat) (zs : List Int) (bt h hm wt : Int) (done : Nat) (w w' : World) : Prop :=
  ∃ w1 pv bv, Only g w w1 ∧ Only B w1 w' ∧ Box w' B pv bv (Plain.drop zs bt h hm wt done).bt (Plain.drop zs bt h hm wt done).h (Plain.drop zs bt h hm wt done).hm (Plain.drop zs bt h hm wt done).wt ∧
        BV w' gb bv (Plain.drop zs bt h hm wt done).bs ∧ (done = n → pv = .slice none 0 0) ∧ (done < n → pv = .slice (some ⟨g, o + done, none⟩) (n - done) (c - done)) ∧
        (∀ cur, w.heap[g]? = some (.cells cur 30 (0, 0)) → o + n ≤ cur.size → ∃ cur', w'.heap[g]? = some (.cells cur' 30 (0, 0)) ∧ cur'.size = cur.size ∧ ∀ j, cur'[j]? = if o ≤ j ∧ j < o + done then some (.slice none 0 0) else cur[j]?)

set_option maxHeartbeats 4000000 in
set_option maxRecDepth 100000 in
theorem drop_any (B g o gb : Nat) (a : Option Addr) (n c : Nat) (ab : Option Addr) (lb cb : Nat) (zs : List Int) (bt h hm wt : Int) (done : Nat) (w : World)
    (hB : Box w B (.slice a n c) (.slice ab lb cb) bt h hm wt) (hBg : B ≠ g) (hgB : gb ≠ B) (hgg : gb ≠ g)
    (hdn : done ≤ n) (hnc : n ≤ c) (hc : c ≤ 1000000000) (hlc : lb ≤ cb) (hcb : cb ≤ 1000000000)
    (hp : 0 < n → a = some ⟨g, o, none⟩ ∧ ∃ cur, w.heap[g]? = some (.cells cur 30 (0, 0)) ∧ o + n ≤ cur.size)
    (hz : IRow w gb ab lb zs) (hz0 : ∀ z ∈ zs, 0 ≤ z) :
    Calls Try.prog 16 #[.pointer (some ⟨B, 0, none⟩), .int .i64 done] w fun e w' => e = .returned (.tuple #[]) ∧
      DropPost B g o gb n c zs bt h hm wt done w w' := by
  obtain ⟨w1, hcl, ho1, hcur⟩ := clear_run w a n c done g o hdn hp
  obtain ⟨c0, c1, c2, c3, c4, c5⟩ := hB.cells
  have f0 := hB.free 0
  have hB1 := hB.only ho1 hBg
  have hz1 := hz.only ho1 hgg
  obtain ⟨d0, d1, d2, d3, d4, d5⟩ := hB1.cells
  have g0 := hB1.free 0
  have hdc : (done : Int) ≤ (c : Int) := by omega
  obtain ⟨ad, hsl⟩ : ∃ ad, ad = (if c = done then a else a.map (fun x => x.add done)) := ⟨_, rfl⟩
  have hsl2 := slice_from 22 30 Try.underlying22 size30 a n c done hdn
  rw [← hsl] at hsl2
  -- what the payloads' field holds behind the second statement
  have hpv : done < n → Value.slice ad (n - done) (c - done) = .slice (some ⟨g, o + done, none⟩) (n - done) (c - done) := fun hl => by
    obtain ⟨rfl, _⟩ := hp (by omega)
    rw [hsl, if_neg (by omega)]
    simp [Addr.add]
  have HF : Hid (∀ w' pv bv, Only B w1 w' → Box w' B pv bv (Plain.drop zs bt h hm wt done).bt (Plain.drop zs bt h hm wt done).h (Plain.drop zs bt h hm wt done).hm (Plain.drop zs bt h hm wt done).wt → BV w' gb bv (Plain.drop zs bt h hm wt done).bs → (done = n → pv = .slice none 0 0) → (done < n → pv = Value.slice ad (n - done) (c - done)) →
      DropPost B g o gb n c zs bt h hm wt done w w') := by
    intro w' pv bv k1 k2 k3 k4 k5
    refine ⟨w1, pv, bv, ho1, k1, k2, k3, k4, fun hl => (k5 hl).trans (hpv hl), fun cur e1 e2 => ?_⟩
    obtain ⟨cur', e3, e4, e5⟩ := hcur cur e1 e2
    exact ⟨cur', (k1.block g (fun e => hBg e.symm)).trans e3, e4, e5⟩
  clear hsl hp hcur hpv
  by_cases hend : done = n
  · have heq : (((n - done : Nat) : Int) == 0) = true := by rw [beq_iff_eq]; omega
    have hge : n ≤ done := by omega
    clear hend
    have hBs := (hB1.set0 (.slice ad 0 (c - done))).set0 (.slice none 0 0)
    have hos : Only B w1 _ := ((Only.refl B w1).setCell 0 (.slice ad 0 (c - done))).setCell 0 (.slice none 0 0)
    have hzs := hz1.only hos hgB
    clear hB1 hz1 hB hz
    go_enter Try.func16, Try.ntmps16
    go_wp2_with (simp only [hcl])
    go_loopw [1] (fun d wr => ∃ (ab' : Option Addr) (lb' cb' : Nat) (rem : List Int) (bt' h' hm' dn : Int), d = .int .i64 dn ∧ Box wr B (.slice none 0 0) (.slice ab' lb' cb') bt' h' hm' wt ∧ Only B w1 wr ∧ IRow wr gb ab' lb' rem ∧ lb' ≤ cb' ∧ cb' ≤ 1000000000 ∧ 0 ≤ dn ∧ dn ≤ 1000000000 ∧ (∀ z ∈ rem, 0 ≤ z) ∧ Plain.run rem bt' h' hm' dn = Plain.run zs bt h hm done)
      (fun _ wr => lenAt wr B)
    case atStart => exact ⟨ab, lb, cb, zs, bt, h, hm, done, rfl, hBs, hos, hzs, hlc, hcb, by omega, by omega, hz0, rfl⟩
    case round =>
      obtain ⟨ab', lb', cb', rem, bt', h', hm', dn, rfl, kB, kO, kZ, klc, kcb, kd0, kd1, kz0, krun⟩ := hrel
      have KR : Hid _ := krun
      obtain ⟨e0, e1, e2, e3, e4, e5⟩ := kB.cells
      have p1 := kB.free 1
      have p2 := kB.free 2
      have p3 := kB.free 3
      have p4 := kB.free 4
      have p5 := kB.free 5
      clear krun c0 c1 c2 c3 c4 c5 d0 d1 d2 d3 d4 d5 f0 g0 hcl hsl2
      cases rem with
      | nil =>
        obtain rfl : lb' = 0 := by have := kZ.len_eq; simpa using this.symm
        by_cases hdp : 0 < dn
        · have HD : Hid (Plain.drop zs bt h hm wt done = ⟨[], 0, 0, 0, 0⟩) := Plain.drop_pos KR.out hdp
          go_wp2
          go_end0
          refine ⟨rfl, HF.out _ _ (.slice none 0 0) (((((((kO.setCell 1 _).setCell 2 _).setCell 3 _).setCell 4 _).setCell 5 _).setCell 1 _)) ?_ ?_ (fun _ => rfl) (fun e => absurd e (by omega))⟩
          · rw [HD.out]; exact (((((kB.set1 _).set2 _).set3 _).set4 _).set5 _).set1 _
          · rw [HD.out]; exact BV.nil _ _
        · have HD : Hid (Plain.drop zs bt h hm wt done = ⟨[], bt', h', hm', wt⟩) := Plain.drop_neg KR.out hdp
          go_wp2
          go_end0
          refine ⟨rfl, HF.out _ _ (.slice none 0 0) (kO.setCell 1 _) ?_ ?_ (fun _ => rfl) (fun e => absurd e (by omega))⟩
          · rw [HD.out]; exact kB.set1 _
          · rw [HD.out]; exact BV.nil _ _
      | cons z rem =>
        obtain ⟨m, rfl⟩ : ∃ m, lb' = m + 1 := ⟨rem.length, by have := kZ.len_eq; simpa using this.symm⟩
        obtain ⟨off, rfl, hcell⟩ := kZ.at_ (by omega)
        have hc0 := hcell 0 (by omega)
        simp at hc0
        have hzz := kz0 z (by simp)
        have hs1 := slice_from 23 3 Try.underlying23 size3 (some ⟨gb, off, none⟩) (m + 1) cb' 1 (by omega)
        obtain ⟨ad', hsl'⟩ : ∃ ad', ad' = (if cb' = 1 then some (⟨gb, off, none⟩ : Addr) else (some (⟨gb, off, none⟩ : Addr)).map (fun x => x.add 1)) := ⟨_, rfl⟩
        rw [← hsl'] at hs1
        have hs2 : ∀ wx : World, (Instr.sliceAt 23 (.slice (some ⟨gb, off, none⟩) (m + 1) cb') (some (.int .i64 1)) none none).run Try.prog wx = .ok (.slice ad' m (cb' - 1)) wx := hs1
        clear hs1
        have hzt := kZ.tail klc
        rw [← hsl'] at hzt
        clear hsl' hcell
        have kz1 : ∀ z ∈ rem, 0 ≤ z := fun y hy => kz0 y (by simp [hy])
        by_cases hfit : z ≤ dn
        · by_cases hh : 0 < h'
          · have HR : Hid (Plain.run rem (wrap64 (bt' - z)) (wrap64 (h' - 1)) (wrap64 (hm' - z)) (dn - z) = Plain.run zs bt h hm done) := (Plain.run_fit_pos hfit hh).symm.trans KR.out
            go_wp2
            go_region
            go_wp2
            go_region
            go_wp2
            go_roundw
            case rel => exact ⟨ad', m, cb' - 1, rem, _, _, _, dn - z, rfl, ((((kB.set1 _).set2 _).set3 _).set4 _).drew.drew, ((((kO.setCell 1 _).setCell 2 _).setCell 3 _).setCell 4 _).drew.drew, hzt.only (((((Only.refl B _).setCell 1 _).setCell 2 _).setCell 3 _).setCell 4 _).drew.drew hgB, by omega, by omega, by omega, by omega, kz1, HR.out⟩
            case measure => rw [((((kB.set1 _).set2 _).set3 _).set4 _).drew.drew.lenAt, kB.lenAt]; omega
          · have HR : Hid (Plain.run rem (wrap64 (bt' - z)) h' hm' (dn - z) = Plain.run zs bt h hm done) := (Plain.run_fit_neg hfit hh).symm.trans KR.out
            go_wp2
            go_region
            go_wp2
            go_roundw
            case rel => exact ⟨ad', m, cb' - 1, rem, _, _, _, dn - z, rfl, ((kB.set1 _).set2 _).drew, ((kO.setCell 1 _).setCell 2 _).drew, hzt.only (((Only.refl B _).setCell 1 _).setCell 2 _).drew hgB, by omega, by omega, by omega, by omega, kz1, HR.out⟩
            case measure => rw [((kB.set1 _).set2 _).drew.lenAt, kB.lenAt]; omega
        · have hst := Plain.run_stop (rest := rem) (bt := bt') (h := h') (hm := hm') hfit
          by_cases hdp : 0 < dn
          · have HD : Hid (Plain.drop zs bt h hm wt done = ⟨[], 0, 0, 0, 0⟩) := Plain.drop_pos (hst.symm.trans KR.out) hdp
            clear hst
            go_wp2
            go_end0
            refine ⟨rfl, HF.out _ _ (.slice none 0 0) (((((((kO.setCell 1 _).setCell 2 _).setCell 3 _).setCell 4 _).setCell 5 _).setCell 1 _)) ?_ ?_ (fun _ => rfl) (fun e => absurd e (by omega))⟩
            · rw [HD.out]; exact (((((kB.set1 _).set2 _).set3 _).set4 _).set5 _).set1 _
            · rw [HD.out]; exact BV.nil _ _
          · have HD : Hid (Plain.drop zs bt h hm wt done = ⟨z :: rem, bt', h', hm', wt⟩) := Plain.drop_neg (hst.symm.trans KR.out) hdp
            clear hst
            go_wp2
            go_end0
            refine ⟨rfl, HF.out _ _ (.slice (some ⟨gb, off, none⟩) (m + 1) cb') kO ?_ ?_ (fun _ => rfl) (fun e => absurd e (by omega))⟩
            · rw [HD.out]; exact kB
            · rw [HD.out]; exact ⟨⟨_, _, _, rfl, klc, kcb, kZ, fun e => by cases e⟩⟩
  · have hlt : done < n := by omega
    have hne : (((n - done : Nat) : Int) == 0) = false := by rw [beq_eq_false_iff_ne]; omega
    have hBs := hB1.set0 (.slice ad (n - done) (c - done))
    have hos : Only B w1 _ := (Only.refl B w1).setCell 0 (.slice ad (n - done) (c - done))
    have hzs := hz1.only hos hgB
    clear hB1 hz1 hB hz
    go_enter Try.func16, Try.ntmps16
    go_wp2_with (simp only [hcl])
    go_loopw [1] (fun d wr => ∃ (ab' : Option Addr) (lb' cb' : Nat) (rem : List Int) (bt' h' hm' dn : Int), d = .int .i64 dn ∧ Box wr B (.slice ad (n - done) (c - done)) (.slice ab' lb' cb') bt' h' hm' wt ∧ Only B w1 wr ∧ IRow wr gb ab' lb' rem ∧ lb' ≤ cb' ∧ cb' ≤ 1000000000 ∧ 0 ≤ dn ∧ dn ≤ 1000000000 ∧ (∀ z ∈ rem, 0 ≤ z) ∧ Plain.run rem bt' h' hm' dn = Plain.run zs bt h hm done)
      (fun _ wr => lenAt wr B)
    case atStart => exact ⟨ab, lb, cb, zs, bt, h, hm, done, rfl, hBs, hos, hzs, hlc, hcb, by omega, by omega, hz0, rfl⟩
    case round =>
      obtain ⟨ab', lb', cb', rem, bt', h', hm', dn, rfl, kB, kO, kZ, klc, kcb, kd0, kd1, kz0, krun⟩ := hrel
      have KR : Hid _ := krun
      obtain ⟨e0, e1, e2, e3, e4, e5⟩ := kB.cells
      have p1 := kB.free 1
      have p2 := kB.free 2
      have p3 := kB.free 3
      have p4 := kB.free 4
      have p5 := kB.free 5
      clear krun c0 c1 c2 c3 c4 c5 d0 d1 d2 d3 d4 d5 f0 g0 hcl hsl2
      cases rem with
      | nil =>
        obtain rfl : lb' = 0 := by have := kZ.len_eq; simpa using this.symm
        by_cases hdp : 0 < dn
        · have HD : Hid (Plain.drop zs bt h hm wt done = ⟨[], 0, 0, 0, 0⟩) := Plain.drop_pos KR.out hdp
          go_wp2
          go_end0
          refine ⟨rfl, HF.out _ _ (.slice none 0 0) (((((((kO.setCell 1 _).setCell 2 _).setCell 3 _).setCell 4 _).setCell 5 _).setCell 1 _)) ?_ ?_ (fun e => absurd e hend) (fun _ => rfl)⟩
          · rw [HD.out]; exact (((((kB.set1 _).set2 _).set3 _).set4 _).set5 _).set1 _
          · rw [HD.out]; exact BV.nil _ _
        · have HD : Hid (Plain.drop zs bt h hm wt done = ⟨[], bt', h', hm', wt⟩) := Plain.drop_neg KR.out hdp
          go_wp2
          go_end0
          refine ⟨rfl, HF.out _ _ (.slice none 0 0) (kO.setCell 1 _) ?_ ?_ (fun e => absurd e hend) (fun _ => rfl)⟩
          · rw [HD.out]; exact kB.set1 _
          · rw [HD.out]; exact BV.nil _ _
      | cons z rem =>
        obtain ⟨m, rfl⟩ : ∃ m, lb' = m + 1 := ⟨rem.length, by have := kZ.len_eq; simpa using this.symm⟩
        obtain ⟨off, rfl, hcell⟩ := kZ.at_ (by omega)
        have hc0 := hcell 0 (by omega)
        simp at hc0
        have hzz := kz0 z (by simp)
        have hs1 := slice_from 23 3 Try.underlying23 size3 (some ⟨gb, off, none⟩) (m + 1) cb' 1 (by omega)
        obtain ⟨ad', hsl'⟩ : ∃ ad', ad' = (if cb' = 1 then some (⟨gb, off, none⟩ : Addr) else (some (⟨gb, off, none⟩ : Addr)).map (fun x => x.add 1)) := ⟨_, rfl⟩
        rw [← hsl'] at hs1
        have hs2 : ∀ wx : World, (Instr.sliceAt 23 (.slice (some ⟨gb, off, none⟩) (m + 1) cb') (some (.int .i64 1)) none none).run Try.prog wx = .ok (.slice ad' m (cb' - 1)) wx := hs1
        clear hs1
        have hzt := kZ.tail klc
        rw [← hsl'] at hzt
        clear hsl' hcell
        have kz1 : ∀ z ∈ rem, 0 ≤ z := fun y hy => kz0 y (by simp [hy])
        by_cases hfit : z ≤ dn
        · by_cases hh : 0 < h'
          · have HR : Hid (Plain.run rem (wrap64 (bt' - z)) (wrap64 (h' - 1)) (wrap64 (hm' - z)) (dn - z) = Plain.run zs bt h hm done) := (Plain.run_fit_pos hfit hh).symm.trans KR.out
            go_wp2
            go_region
            go_wp2
            go_region
            go_wp2
            go_roundw
            case rel => exact ⟨ad', m, cb' - 1, rem, _, _, _, dn - z, rfl, ((((kB.set1 _).set2 _).set3 _).set4 _).drew.drew, ((((kO.setCell 1 _).setCell 2 _).setCell 3 _).setCell 4 _).drew.drew, hzt.only (((((Only.refl B _).setCell 1 _).setCell 2 _).setCell 3 _).setCell 4 _).drew.drew hgB, by omega, by omega, by omega, by omega, kz1, HR.out⟩
            case measure => rw [((((kB.set1 _).set2 _).set3 _).set4 _).drew.drew.lenAt, kB.lenAt]; omega
          · have HR : Hid (Plain.run rem (wrap64 (bt' - z)) h' hm' (dn - z) = Plain.run zs bt h hm done) := (Plain.run_fit_neg hfit hh).symm.trans KR.out
            go_wp2
            go_region
            go_wp2
            go_roundw
            case rel => exact ⟨ad', m, cb' - 1, rem, _, _, _, dn - z, rfl, ((kB.set1 _).set2 _).drew, ((kO.setCell 1 _).setCell 2 _).drew, hzt.only (((Only.refl B _).setCell 1 _).setCell 2 _).drew hgB, by omega, by omega, by omega, by omega, kz1, HR.out⟩
            case measure => rw [((kB.set1 _).set2 _).drew.lenAt, kB.lenAt]; omega
        · have hst := Plain.run_stop (rest := rem) (bt := bt') (h := h') (hm := hm') hfit
          by_cases hdp : 0 < dn
          · have HD : Hid (Plain.drop zs bt h hm wt done = ⟨[], 0, 0, 0, 0⟩) := Plain.drop_pos (hst.symm.trans KR.out) hdp
            clear hst
            go_wp2
            go_end0
            refine ⟨rfl, HF.out _ _ (.slice none 0 0) (((((((kO.setCell 1 _).setCell 2 _).setCell 3 _).setCell 4 _).setCell 5 _).setCell 1 _)) ?_ ?_ (fun e => absurd e hend) (fun _ => rfl)⟩
            · rw [HD.out]; exact (((((kB.set1 _).set2 _).set3 _).set4 _).set5 _).set1 _
            · rw [HD.out]; exact BV.nil _ _
          · have HD : Hid (Plain.drop zs bt h hm wt done = ⟨z :: rem, bt', h', hm', wt⟩) := Plain.drop_neg (hst.symm.trans KR.out) hdp
            clear hst
            go_wp2
            go_end0
            refine ⟨rfl, HF.out _ _ (.slice (some ⟨gb, off, none⟩) (m + 1) cb') kO ?_ ?_ (fun e => absurd e hend) (fun _ => rfl)⟩
            · rw [HD.out]; exact kB
            · rw [HD.out]; exact ⟨⟨_, _, _, rfl, klc, kcb, kZ, fun e => by cases e⟩⟩
end Go.Proofs.Qxb6617798a
