/-
  Seat b6618922a: the walk of 'FnDropForgetsOnlyTheIdlePoolItIsGiven' (function 7), out of its callees' contracts.
-/
import Derived.Test.Qxb6618922aQueues
namespace Go.Proofs.Qxb6618922a.forgets
open Go.RowKit Go.Maps

set_option maxHeartbeats 400000 in
theorem zz18_any (a0 a1 : ByteArray) (a2 : Int) (a3 : Bool) (a4 : Int) (a5 : Bool) (w : World) (h0 : a0.size ≤ maxLen) (h1 : a1.size ≤ maxLen) :
    Calls Try.prog 18 #[.string a0, .string a1, .int .i64 a2, .bool a3, .int .i64 a4, .bool a5] w fun e w' => ∃ b : Bool, e = .returned (.bool b) ∧ w = w' := by
  unfold maxLen at *
  go_enter Try.func18, Try.ntmps18
  go_wp2
  all_goals
    go_ret
    exact ⟨_, rfl, rfl⟩

set_option maxHeartbeats 4000000 in
theorem walk (pool other : ByteArray) (present : Int) (lulled : Bool) (oPresent : Int) (oLulled : Bool) (w0 : pool.size ≤ maxLen) (w1 : other.size ≤ maxLen) (w : World) :
    Calls Try.prog 7 #[.string pool, .string other, .int .i64 present, .bool lulled, .int .i64 oPresent, .bool oLulled] w fun e w' => e = .returned (.bool true) ∧ Below w.heap.size w w' := by
  have W0 := hide w0
  have W1 := hide w1
  unfold maxLen at w0 w1
  go_enter Try.func7, Try.ntmps7
  go_wp2_with fail
  refine (zz18_any pool other present lulled oPresent oLulled w W0.out W1.out).mono ?_
  rintro e w' ⟨b, rfl, rfl⟩
  by_cases hbig : 524288 < pool.size
  · go_wp2
    all_goals (go_ret; exact ⟨rfl, Below.refl _ _⟩)
  by_cases hbig2 : 524288 < other.size
  · go_wp2
    all_goals (go_ret; exact ⟨rfl, Below.refl _ _⟩)
  by_cases hneg : present < 0
  · go_wp2
    all_goals (go_ret; exact ⟨rfl, Below.refl _ _⟩)
  by_cases hneg2 : oPresent < 0
  · go_wp2
    all_goals (go_ret; exact ⟨rfl, Below.refl _ _⟩)
  cases b
  · go_wp2
    go_ret
    exact ⟨rfl, Below.refl _ _⟩
  go_wp2_with fail
  refine (newQueues_any w).mono ?_
  rintro e w1 ⟨rfl, hq1, b1⟩
  go_wp2_with fail
  refine (newQueue_any present w1).mono ?_
  rintro e w2 ⟨q, rfl, hq, hql, hi2, b2⟩
  -- CASES
  have s1 := b1.size
  have hq2 := QAt.below hq1 b2
  have b12 := b1.trans (b2.mono b1.size)
  have hlt1 := hq1.own.lt
  cases lulled
  · have hiQ := hi2
    have hqQ := hq2
    have bq := b12
    have hqne : q ≠ w.heap.size := by omega
    clear hi2 hq2 b12 hq1
    go_wp2_with fail
    refine (put_any (w.heap.size + 1) w.heap.size 0 (.map []) pool _ w2 hqQ (by omega) W0.out).mono ?_
    rintro e w4 ⟨rfl, hq4, g4⟩
    have hi4 := hiQ.grown g4 hqne
    have b4 : Below w.heap.size w w4 := bq.grown g4 bq.size (fun k hk => by cases hk; exact Nat.le_refl _)
    cases hd : (other.toList == pool.toList)
    · -- another pool besides
      have hd' : (!(other.toList == pool.toList)) = true := by rw [hd]; rfl
      have hne : other.data.toList ≠ pool.data.toList := fun e => by
        rw [ByteArray.toList_eq, ByteArray.toList_eq, e] at hd
        simp at hd
      obtain ⟨t1, t2, t3, t4⟩ := put_two pool.data.toList other.data.toList hne
      have hol : (Lit.string other.data.toList) ≠ (Lit.string pool.data.toList) := fun e => hne (by injection e)
      go_wp2_with fail
      refine (newQueue_any oPresent w4).mono ?_
      rintro e w5 ⟨q5, rfl, hq5, hql5, hi5, b5⟩
      have hi5' := hi4.below b5
      have hq5' := QAt.below hq4 b5
      have b5' := b4.trans (b5.mono b4.size)
      clear hi5
      cases oLulled
      · go_wp2_with fail
        refine (put_any (w.heap.size + 1) w.heap.size 1 _ other _ w5 hq5' (by omega) W1.out).mono ?_
        rintro e w7 ⟨rfl, hq7, g7⟩
        have hi7 := hi5'.grown g7 hqne
        have b7 := b5'.grown g7 b5'.size (fun k hk => by cases hk; exact Nat.le_refl _)
        obtain ⟨f1, f2, f3⟩ := drop_facts t1 (.string pool.data.toList) (present != 0 || false) t2
        generalize hDD : (((DataW.map [] : DataW Unit).put (Lit.string pool.data.toList) (DataW.agg [])).put (Lit.string other.data.toList) (DataW.agg [])) = D at t1 t2 t4 f1 f2 f3 hq7 t3
        have HT := hide (And.intro f1 (And.intro f2 (And.intro f3 (And.intro t4 t3))))
        clear t1 t2 t4 f1 f2 f3 hDD t3
        by_cases hz : present = 0
        · have hbz : (present != 0) = false := by subst hz; rfl
          have hB : (present != 0 || false) = false := by rw [hbz]; rfl
          go_wp2_with fail
          refine (drop_any (w.heap.size + 1) w.heap.size 2 q D pool present false w7 hq7 W0.out hi7).mono ?_
          rintro e wa ⟨rfl, hqa, ga⟩
          have hia := hi7.grown ga hqne
          have ba := b7.grown ga b7.size (fun k hk => by cases hk; exact Nat.le_refl _)
          go_wp2_with fail
          refine (has_any _ _ _ _ pool wa hqa W0.out).mono ?_
          rintro e wb ⟨rfl, rfl⟩
          rw [HT.out.1, hB]
          go_wp2_with fail
          refine (count_any _ _ _ _ wa hqa).mono ?_
          rintro e wb ⟨rfl, rfl⟩
          have hs1 : Maps.size (dropD D (.string pool.data.toList) (present != 0 || false)) = 1 := by
            have := HT.out.2.1
            rw [hB, HT.out.2.2.2.1] at this
            rw [hB]
            simp at this ⊢
            omega
          rw [hs1]
          go_wp2_with fail
          refine (drop_any (w.heap.size + 1) w.heap.size 2 q _ pool present false wa hqa W0.out hia).mono ?_
          rintro e wc ⟨rfl, hqc, gc⟩
          rw [HT.out.2.2.1] at hqc
          have bc := ba.grown gc ba.size (fun k hk => by cases hk; exact Nat.le_refl _)
          go_wp2_with fail
          refine (has_any _ _ _ _ other wc hqc W1.out).mono ?_
          rintro e wb ⟨rfl, rfl⟩
          rw [has_dropD_other hol, HT.out.2.2.2.2]
          go_wp2_with fail
          refine (has_any _ _ _ _ pool wc hqc W0.out).mono ?_
          rintro e wb ⟨rfl, rfl⟩
          rw [HT.out.1, hB]
          go_wp2_with fail
          refine (count_any _ _ _ _ wc hqc).mono ?_
          rintro e wb ⟨rfl, rfl⟩
          rw [hs1]
          go_wp2
          go_ret
          exact ⟨rfl, bc⟩
        · have hbz : (present != 0) = true := by simp [hz]
          have hB : (present != 0 || false) = true := by rw [hbz]; rfl
          go_wp2_with fail
          refine (drop_any (w.heap.size + 1) w.heap.size 2 q D pool present false w7 hq7 W0.out hi7).mono ?_
          rintro e wa ⟨rfl, hqa, ga⟩
          have hia := hi7.grown ga hqne
          have ba := b7.grown ga b7.size (fun k hk => by cases hk; exact Nat.le_refl _)
          go_wp2_with fail
          refine (has_any _ _ _ _ pool wa hqa W0.out).mono ?_
          rintro e wb ⟨rfl, rfl⟩
          rw [HT.out.1, hB]
          go_wp2_with fail
          refine (count_any _ _ _ _ wa hqa).mono ?_
          rintro e wb ⟨rfl, rfl⟩
          have hs1 : Maps.size (dropD D (.string pool.data.toList) (present != 0 || false)) = 2 := by
            have := HT.out.2.1
            rw [hB, HT.out.2.2.2.1] at this
            rw [hB]
            simp at this ⊢
            omega
          rw [hs1]
          go_wp2_with fail
          refine (drop_any (w.heap.size + 1) w.heap.size 2 q _ pool present false wa hqa W0.out hia).mono ?_
          rintro e wc ⟨rfl, hqc, gc⟩
          rw [HT.out.2.2.1] at hqc
          have bc := ba.grown gc ba.size (fun k hk => by cases hk; exact Nat.le_refl _)
          go_wp2_with fail
          refine (has_any _ _ _ _ other wc hqc W1.out).mono ?_
          rintro e wb ⟨rfl, rfl⟩
          rw [has_dropD_other hol, HT.out.2.2.2.2]
          go_wp2_with fail
          refine (has_any _ _ _ _ pool wc hqc W0.out).mono ?_
          rintro e wb ⟨rfl, rfl⟩
          rw [HT.out.1, hB]
          go_wp2_with fail
          refine (count_any _ _ _ _ wc hqc).mono ?_
          rintro e wb ⟨rfl, rfl⟩
          rw [hs1]
          go_wp2
          go_ret
          exact ⟨rfl, bc⟩
      · go_wp2_with fail
        refine (newLulled_any oPresent w5).mono ?_
        rintro e w6 ⟨q6, rfl, hq6, hql6, hi6, b6⟩
        have hi6' := hi5'.below b6
        have hq6' := QAt.below hq5' b6
        have b6' := b5'.trans (b6.mono b5'.size)
        clear hi6
        go_wp2_with fail
        refine (put_any (w.heap.size + 1) w.heap.size 1 _ other _ w6 hq6' (by omega) W1.out).mono ?_
        rintro e w7 ⟨rfl, hq7, g7⟩
        have hi7 := hi6'.grown g7 hqne
        have b7 := b6'.grown g7 b6'.size (fun k hk => by cases hk; exact Nat.le_refl _)
        obtain ⟨f1, f2, f3⟩ := drop_facts t1 (.string pool.data.toList) (present != 0 || false) t2
        generalize hDD : (((DataW.map [] : DataW Unit).put (Lit.string pool.data.toList) (DataW.agg [])).put (Lit.string other.data.toList) (DataW.agg [])) = D at t1 t2 t4 f1 f2 f3 hq7 t3
        have HT := hide (And.intro f1 (And.intro f2 (And.intro f3 (And.intro t4 t3))))
        clear t1 t2 t4 f1 f2 f3 hDD t3
        by_cases hz : present = 0
        · have hbz : (present != 0) = false := by subst hz; rfl
          have hB : (present != 0 || false) = false := by rw [hbz]; rfl
          go_wp2_with fail
          refine (drop_any (w.heap.size + 1) w.heap.size 2 q D pool present false w7 hq7 W0.out hi7).mono ?_
          rintro e wa ⟨rfl, hqa, ga⟩
          have hia := hi7.grown ga hqne
          have ba := b7.grown ga b7.size (fun k hk => by cases hk; exact Nat.le_refl _)
          go_wp2_with fail
          refine (has_any _ _ _ _ pool wa hqa W0.out).mono ?_
          rintro e wb ⟨rfl, rfl⟩
          rw [HT.out.1, hB]
          go_wp2_with fail
          refine (count_any _ _ _ _ wa hqa).mono ?_
          rintro e wb ⟨rfl, rfl⟩
          have hs1 : Maps.size (dropD D (.string pool.data.toList) (present != 0 || false)) = 1 := by
            have := HT.out.2.1
            rw [hB, HT.out.2.2.2.1] at this
            rw [hB]
            simp at this ⊢
            omega
          rw [hs1]
          go_wp2_with fail
          refine (drop_any (w.heap.size + 1) w.heap.size 2 q _ pool present false wa hqa W0.out hia).mono ?_
          rintro e wc ⟨rfl, hqc, gc⟩
          rw [HT.out.2.2.1] at hqc
          have bc := ba.grown gc ba.size (fun k hk => by cases hk; exact Nat.le_refl _)
          go_wp2_with fail
          refine (has_any _ _ _ _ other wc hqc W1.out).mono ?_
          rintro e wb ⟨rfl, rfl⟩
          rw [has_dropD_other hol, HT.out.2.2.2.2]
          go_wp2_with fail
          refine (has_any _ _ _ _ pool wc hqc W0.out).mono ?_
          rintro e wb ⟨rfl, rfl⟩
          rw [HT.out.1, hB]
          go_wp2_with fail
          refine (count_any _ _ _ _ wc hqc).mono ?_
          rintro e wb ⟨rfl, rfl⟩
          rw [hs1]
          go_wp2
          go_ret
          exact ⟨rfl, bc⟩
        · have hbz : (present != 0) = true := by simp [hz]
          have hB : (present != 0 || false) = true := by rw [hbz]; rfl
          go_wp2_with fail
          refine (drop_any (w.heap.size + 1) w.heap.size 2 q D pool present false w7 hq7 W0.out hi7).mono ?_
          rintro e wa ⟨rfl, hqa, ga⟩
          have hia := hi7.grown ga hqne
          have ba := b7.grown ga b7.size (fun k hk => by cases hk; exact Nat.le_refl _)
          go_wp2_with fail
          refine (has_any _ _ _ _ pool wa hqa W0.out).mono ?_
          rintro e wb ⟨rfl, rfl⟩
          rw [HT.out.1, hB]
          go_wp2_with fail
          refine (count_any _ _ _ _ wa hqa).mono ?_
          rintro e wb ⟨rfl, rfl⟩
          have hs1 : Maps.size (dropD D (.string pool.data.toList) (present != 0 || false)) = 2 := by
            have := HT.out.2.1
            rw [hB, HT.out.2.2.2.1] at this
            rw [hB]
            simp at this ⊢
            omega
          rw [hs1]
          go_wp2_with fail
          refine (drop_any (w.heap.size + 1) w.heap.size 2 q _ pool present false wa hqa W0.out hia).mono ?_
          rintro e wc ⟨rfl, hqc, gc⟩
          rw [HT.out.2.2.1] at hqc
          have bc := ba.grown gc ba.size (fun k hk => by cases hk; exact Nat.le_refl _)
          go_wp2_with fail
          refine (has_any _ _ _ _ other wc hqc W1.out).mono ?_
          rintro e wb ⟨rfl, rfl⟩
          rw [has_dropD_other hol, HT.out.2.2.2.2]
          go_wp2_with fail
          refine (has_any _ _ _ _ pool wc hqc W0.out).mono ?_
          rintro e wb ⟨rfl, rfl⟩
          rw [HT.out.1, hB]
          go_wp2_with fail
          refine (count_any _ _ _ _ wc hqc).mono ?_
          rintro e wb ⟨rfl, rfl⟩
          rw [hs1]
          go_wp2
          go_ret
          exact ⟨rfl, bc⟩
    · -- the same pool
      have hd' : (!(other.toList == pool.toList)) = false := by rw [hd]; rfl
      obtain ⟨t1, t2, t4⟩ := put_one pool.data.toList
      obtain ⟨f1, f2, f3⟩ := drop_facts t1 (.string pool.data.toList) (present != 0 || false) t2
      generalize hDD : ((DataW.map [] : DataW Unit).put (Lit.string pool.data.toList) (DataW.agg [])) = D at t1 t2 t4 f1 f2 f3 hq4
      have HT := hide (And.intro f1 (And.intro f2 (And.intro f3 (And.intro t4 trivial))))
      clear t1 t2 t4 f1 f2 f3 hDD
      by_cases hz : present = 0
      · have hbz : (present != 0) = false := by subst hz; rfl
        have hB : (present != 0 || false) = false := by rw [hbz]; rfl
        go_wp2_with fail
        refine (drop_any (w.heap.size + 1) w.heap.size 1 q D pool present false w4 hq4 W0.out hi4).mono ?_
        rintro e wa ⟨rfl, hqa, ga⟩
        have hia := hi4.grown ga hqne
        have ba := b4.grown ga b4.size (fun k hk => by cases hk; exact Nat.le_refl _)
        go_wp2_with fail
        refine (has_any _ _ _ _ pool wa hqa W0.out).mono ?_
        rintro e wb ⟨rfl, rfl⟩
        rw [HT.out.1, hB]
        go_wp2_with fail
        refine (count_any _ _ _ _ wa hqa).mono ?_
        rintro e wb ⟨rfl, rfl⟩
        have hs1 : Maps.size (dropD D (.string pool.data.toList) (present != 0 || false)) = 0 := by
          have := HT.out.2.1
          rw [hB, HT.out.2.2.2.1] at this
          rw [hB]
          simp at this ⊢
          omega
        rw [hs1]
        go_wp2_with fail
        refine (drop_any (w.heap.size + 1) w.heap.size 1 q _ pool present false wa hqa W0.out hia).mono ?_
        rintro e wc ⟨rfl, hqc, gc⟩
        rw [HT.out.2.2.1] at hqc
        have bc := ba.grown gc ba.size (fun k hk => by cases hk; exact Nat.le_refl _)
        go_wp2_with fail
        refine (has_any _ _ _ _ pool wc hqc W0.out).mono ?_
        rintro e wb ⟨rfl, rfl⟩
        rw [HT.out.1, hB]
        go_wp2_with fail
        refine (count_any _ _ _ _ wc hqc).mono ?_
        rintro e wb ⟨rfl, rfl⟩
        rw [hs1]
        go_wp2
        go_ret
        exact ⟨rfl, bc⟩
      · have hbz : (present != 0) = true := by simp [hz]
        have hB : (present != 0 || false) = true := by rw [hbz]; rfl
        go_wp2_with fail
        refine (drop_any (w.heap.size + 1) w.heap.size 1 q D pool present false w4 hq4 W0.out hi4).mono ?_
        rintro e wa ⟨rfl, hqa, ga⟩
        have hia := hi4.grown ga hqne
        have ba := b4.grown ga b4.size (fun k hk => by cases hk; exact Nat.le_refl _)
        go_wp2_with fail
        refine (has_any _ _ _ _ pool wa hqa W0.out).mono ?_
        rintro e wb ⟨rfl, rfl⟩
        rw [HT.out.1, hB]
        go_wp2_with fail
        refine (count_any _ _ _ _ wa hqa).mono ?_
        rintro e wb ⟨rfl, rfl⟩
        have hs1 : Maps.size (dropD D (.string pool.data.toList) (present != 0 || false)) = 1 := by
          have := HT.out.2.1
          rw [hB, HT.out.2.2.2.1] at this
          rw [hB]
          simp at this ⊢
          omega
        rw [hs1]
        go_wp2_with fail
        refine (drop_any (w.heap.size + 1) w.heap.size 1 q _ pool present false wa hqa W0.out hia).mono ?_
        rintro e wc ⟨rfl, hqc, gc⟩
        rw [HT.out.2.2.1] at hqc
        have bc := ba.grown gc ba.size (fun k hk => by cases hk; exact Nat.le_refl _)
        go_wp2_with fail
        refine (has_any _ _ _ _ pool wc hqc W0.out).mono ?_
        rintro e wb ⟨rfl, rfl⟩
        rw [HT.out.1, hB]
        go_wp2_with fail
        refine (count_any _ _ _ _ wc hqc).mono ?_
        rintro e wb ⟨rfl, rfl⟩
        rw [hs1]
        go_wp2
        go_ret
        exact ⟨rfl, bc⟩
  · clear hi2
    go_wp2_with fail
    refine (newLulled_any present w2).mono ?_
    rintro e w3 ⟨q, rfl, hq, hql, hiQ, b3⟩
    have hqQ := QAt.below hq2 b3
    have bq := b12.trans (b3.mono b12.size)
    have s2 := b2.size
    have hqne : q ≠ w.heap.size := by omega
    clear hq2 b12 hq1
    go_wp2_with fail
    refine (put_any (w.heap.size + 1) w.heap.size 0 (.map []) pool _ w3 hqQ (by omega) W0.out).mono ?_
    rintro e w4 ⟨rfl, hq4, g4⟩
    have hi4 := hiQ.grown g4 hqne
    have b4 : Below w.heap.size w w4 := bq.grown g4 bq.size (fun k hk => by cases hk; exact Nat.le_refl _)
    cases hd : (other.toList == pool.toList)
    · -- another pool besides
      have hd' : (!(other.toList == pool.toList)) = true := by rw [hd]; rfl
      have hne : other.data.toList ≠ pool.data.toList := fun e => by
        rw [ByteArray.toList_eq, ByteArray.toList_eq, e] at hd
        simp at hd
      obtain ⟨t1, t2, t3, t4⟩ := put_two pool.data.toList other.data.toList hne
      have hol : (Lit.string other.data.toList) ≠ (Lit.string pool.data.toList) := fun e => hne (by injection e)
      go_wp2_with fail
      refine (newQueue_any oPresent w4).mono ?_
      rintro e w5 ⟨q5, rfl, hq5, hql5, hi5, b5⟩
      have hi5' := hi4.below b5
      have hq5' := QAt.below hq4 b5
      have b5' := b4.trans (b5.mono b4.size)
      clear hi5
      cases oLulled
      · go_wp2_with fail
        refine (put_any (w.heap.size + 1) w.heap.size 1 _ other _ w5 hq5' (by omega) W1.out).mono ?_
        rintro e w7 ⟨rfl, hq7, g7⟩
        have hi7 := hi5'.grown g7 hqne
        have b7 := b5'.grown g7 b5'.size (fun k hk => by cases hk; exact Nat.le_refl _)
        obtain ⟨f1, f2, f3⟩ := drop_facts t1 (.string pool.data.toList) (present != 0 || true) t2
        generalize hDD : (((DataW.map [] : DataW Unit).put (Lit.string pool.data.toList) (DataW.agg [])).put (Lit.string other.data.toList) (DataW.agg [])) = D at t1 t2 t4 f1 f2 f3 hq7 t3
        have HT := hide (And.intro f1 (And.intro f2 (And.intro f3 (And.intro t4 t3))))
        clear t1 t2 t4 f1 f2 f3 hDD t3
        by_cases hz : present = 0
        · have hbz : (present != 0) = false := by subst hz; rfl
          have hB : (present != 0 || true) = true := by rw [hbz]; rfl
          go_wp2_with fail
          refine (drop_any (w.heap.size + 1) w.heap.size 2 q D pool present true w7 hq7 W0.out hi7).mono ?_
          rintro e wa ⟨rfl, hqa, ga⟩
          have hia := hi7.grown ga hqne
          have ba := b7.grown ga b7.size (fun k hk => by cases hk; exact Nat.le_refl _)
          go_wp2_with fail
          refine (has_any _ _ _ _ pool wa hqa W0.out).mono ?_
          rintro e wb ⟨rfl, rfl⟩
          rw [HT.out.1, hB]
          go_wp2_with fail
          refine (count_any _ _ _ _ wa hqa).mono ?_
          rintro e wb ⟨rfl, rfl⟩
          have hs1 : Maps.size (dropD D (.string pool.data.toList) (present != 0 || true)) = 2 := by
            have := HT.out.2.1
            rw [hB, HT.out.2.2.2.1] at this
            rw [hB]
            simp at this ⊢
            omega
          rw [hs1]
          go_wp2_with fail
          refine (drop_any (w.heap.size + 1) w.heap.size 2 q _ pool present true wa hqa W0.out hia).mono ?_
          rintro e wc ⟨rfl, hqc, gc⟩
          rw [HT.out.2.2.1] at hqc
          have bc := ba.grown gc ba.size (fun k hk => by cases hk; exact Nat.le_refl _)
          go_wp2_with fail
          refine (has_any _ _ _ _ other wc hqc W1.out).mono ?_
          rintro e wb ⟨rfl, rfl⟩
          rw [has_dropD_other hol, HT.out.2.2.2.2]
          go_wp2_with fail
          refine (has_any _ _ _ _ pool wc hqc W0.out).mono ?_
          rintro e wb ⟨rfl, rfl⟩
          rw [HT.out.1, hB]
          go_wp2_with fail
          refine (count_any _ _ _ _ wc hqc).mono ?_
          rintro e wb ⟨rfl, rfl⟩
          rw [hs1]
          go_wp2
          go_ret
          exact ⟨rfl, bc⟩
        · have hbz : (present != 0) = true := by simp [hz]
          have hB : (present != 0 || true) = true := by rw [hbz]; rfl
          go_wp2_with fail
          refine (drop_any (w.heap.size + 1) w.heap.size 2 q D pool present true w7 hq7 W0.out hi7).mono ?_
          rintro e wa ⟨rfl, hqa, ga⟩
          have hia := hi7.grown ga hqne
          have ba := b7.grown ga b7.size (fun k hk => by cases hk; exact Nat.le_refl _)
          go_wp2_with fail
          refine (has_any _ _ _ _ pool wa hqa W0.out).mono ?_
          rintro e wb ⟨rfl, rfl⟩
          rw [HT.out.1, hB]
          go_wp2_with fail
          refine (count_any _ _ _ _ wa hqa).mono ?_
          rintro e wb ⟨rfl, rfl⟩
          have hs1 : Maps.size (dropD D (.string pool.data.toList) (present != 0 || true)) = 2 := by
            have := HT.out.2.1
            rw [hB, HT.out.2.2.2.1] at this
            rw [hB]
            simp at this ⊢
            omega
          rw [hs1]
          go_wp2_with fail
          refine (drop_any (w.heap.size + 1) w.heap.size 2 q _ pool present true wa hqa W0.out hia).mono ?_
          rintro e wc ⟨rfl, hqc, gc⟩
          rw [HT.out.2.2.1] at hqc
          have bc := ba.grown gc ba.size (fun k hk => by cases hk; exact Nat.le_refl _)
          go_wp2_with fail
          refine (has_any _ _ _ _ other wc hqc W1.out).mono ?_
          rintro e wb ⟨rfl, rfl⟩
          rw [has_dropD_other hol, HT.out.2.2.2.2]
          go_wp2_with fail
          refine (has_any _ _ _ _ pool wc hqc W0.out).mono ?_
          rintro e wb ⟨rfl, rfl⟩
          rw [HT.out.1, hB]
          go_wp2_with fail
          refine (count_any _ _ _ _ wc hqc).mono ?_
          rintro e wb ⟨rfl, rfl⟩
          rw [hs1]
          go_wp2
          go_ret
          exact ⟨rfl, bc⟩
      · go_wp2_with fail
        refine (newLulled_any oPresent w5).mono ?_
        rintro e w6 ⟨q6, rfl, hq6, hql6, hi6, b6⟩
        have hi6' := hi5'.below b6
        have hq6' := QAt.below hq5' b6
        have b6' := b5'.trans (b6.mono b5'.size)
        clear hi6
        go_wp2_with fail
        refine (put_any (w.heap.size + 1) w.heap.size 1 _ other _ w6 hq6' (by omega) W1.out).mono ?_
        rintro e w7 ⟨rfl, hq7, g7⟩
        have hi7 := hi6'.grown g7 hqne
        have b7 := b6'.grown g7 b6'.size (fun k hk => by cases hk; exact Nat.le_refl _)
        obtain ⟨f1, f2, f3⟩ := drop_facts t1 (.string pool.data.toList) (present != 0 || true) t2
        generalize hDD : (((DataW.map [] : DataW Unit).put (Lit.string pool.data.toList) (DataW.agg [])).put (Lit.string other.data.toList) (DataW.agg [])) = D at t1 t2 t4 f1 f2 f3 hq7 t3
        have HT := hide (And.intro f1 (And.intro f2 (And.intro f3 (And.intro t4 t3))))
        clear t1 t2 t4 f1 f2 f3 hDD t3
        by_cases hz : present = 0
        · have hbz : (present != 0) = false := by subst hz; rfl
          have hB : (present != 0 || true) = true := by rw [hbz]; rfl
          go_wp2_with fail
          refine (drop_any (w.heap.size + 1) w.heap.size 2 q D pool present true w7 hq7 W0.out hi7).mono ?_
          rintro e wa ⟨rfl, hqa, ga⟩
          have hia := hi7.grown ga hqne
          have ba := b7.grown ga b7.size (fun k hk => by cases hk; exact Nat.le_refl _)
          go_wp2_with fail
          refine (has_any _ _ _ _ pool wa hqa W0.out).mono ?_
          rintro e wb ⟨rfl, rfl⟩
          rw [HT.out.1, hB]
          go_wp2_with fail
          refine (count_any _ _ _ _ wa hqa).mono ?_
          rintro e wb ⟨rfl, rfl⟩
          have hs1 : Maps.size (dropD D (.string pool.data.toList) (present != 0 || true)) = 2 := by
            have := HT.out.2.1
            rw [hB, HT.out.2.2.2.1] at this
            rw [hB]
            simp at this ⊢
            omega
          rw [hs1]
          go_wp2_with fail
          refine (drop_any (w.heap.size + 1) w.heap.size 2 q _ pool present true wa hqa W0.out hia).mono ?_
          rintro e wc ⟨rfl, hqc, gc⟩
          rw [HT.out.2.2.1] at hqc
          have bc := ba.grown gc ba.size (fun k hk => by cases hk; exact Nat.le_refl _)
          go_wp2_with fail
          refine (has_any _ _ _ _ other wc hqc W1.out).mono ?_
          rintro e wb ⟨rfl, rfl⟩
          rw [has_dropD_other hol, HT.out.2.2.2.2]
          go_wp2_with fail
          refine (has_any _ _ _ _ pool wc hqc W0.out).mono ?_
          rintro e wb ⟨rfl, rfl⟩
          rw [HT.out.1, hB]
          go_wp2_with fail
          refine (count_any _ _ _ _ wc hqc).mono ?_
          rintro e wb ⟨rfl, rfl⟩
          rw [hs1]
          go_wp2
          go_ret
          exact ⟨rfl, bc⟩
        · have hbz : (present != 0) = true := by simp [hz]
          have hB : (present != 0 || true) = true := by rw [hbz]; rfl
          go_wp2_with fail
          refine (drop_any (w.heap.size + 1) w.heap.size 2 q D pool present true w7 hq7 W0.out hi7).mono ?_
          rintro e wa ⟨rfl, hqa, ga⟩
          have hia := hi7.grown ga hqne
          have ba := b7.grown ga b7.size (fun k hk => by cases hk; exact Nat.le_refl _)
          go_wp2_with fail
          refine (has_any _ _ _ _ pool wa hqa W0.out).mono ?_
          rintro e wb ⟨rfl, rfl⟩
          rw [HT.out.1, hB]
          go_wp2_with fail
          refine (count_any _ _ _ _ wa hqa).mono ?_
          rintro e wb ⟨rfl, rfl⟩
          have hs1 : Maps.size (dropD D (.string pool.data.toList) (present != 0 || true)) = 2 := by
            have := HT.out.2.1
            rw [hB, HT.out.2.2.2.1] at this
            rw [hB]
            simp at this ⊢
            omega
          rw [hs1]
          go_wp2_with fail
          refine (drop_any (w.heap.size + 1) w.heap.size 2 q _ pool present true wa hqa W0.out hia).mono ?_
          rintro e wc ⟨rfl, hqc, gc⟩
          rw [HT.out.2.2.1] at hqc
          have bc := ba.grown gc ba.size (fun k hk => by cases hk; exact Nat.le_refl _)
          go_wp2_with fail
          refine (has_any _ _ _ _ other wc hqc W1.out).mono ?_
          rintro e wb ⟨rfl, rfl⟩
          rw [has_dropD_other hol, HT.out.2.2.2.2]
          go_wp2_with fail
          refine (has_any _ _ _ _ pool wc hqc W0.out).mono ?_
          rintro e wb ⟨rfl, rfl⟩
          rw [HT.out.1, hB]
          go_wp2_with fail
          refine (count_any _ _ _ _ wc hqc).mono ?_
          rintro e wb ⟨rfl, rfl⟩
          rw [hs1]
          go_wp2
          go_ret
          exact ⟨rfl, bc⟩
    · -- the same pool
      have hd' : (!(other.toList == pool.toList)) = false := by rw [hd]; rfl
      obtain ⟨t1, t2, t4⟩ := put_one pool.data.toList
      obtain ⟨f1, f2, f3⟩ := drop_facts t1 (.string pool.data.toList) (present != 0 || true) t2
      generalize hDD : ((DataW.map [] : DataW Unit).put (Lit.string pool.data.toList) (DataW.agg [])) = D at t1 t2 t4 f1 f2 f3 hq4
      have HT := hide (And.intro f1 (And.intro f2 (And.intro f3 (And.intro t4 trivial))))
      clear t1 t2 t4 f1 f2 f3 hDD
      by_cases hz : present = 0
      · have hbz : (present != 0) = false := by subst hz; rfl
        have hB : (present != 0 || true) = true := by rw [hbz]; rfl
        go_wp2_with fail
        refine (drop_any (w.heap.size + 1) w.heap.size 1 q D pool present true w4 hq4 W0.out hi4).mono ?_
        rintro e wa ⟨rfl, hqa, ga⟩
        have hia := hi4.grown ga hqne
        have ba := b4.grown ga b4.size (fun k hk => by cases hk; exact Nat.le_refl _)
        go_wp2_with fail
        refine (has_any _ _ _ _ pool wa hqa W0.out).mono ?_
        rintro e wb ⟨rfl, rfl⟩
        rw [HT.out.1, hB]
        go_wp2_with fail
        refine (count_any _ _ _ _ wa hqa).mono ?_
        rintro e wb ⟨rfl, rfl⟩
        have hs1 : Maps.size (dropD D (.string pool.data.toList) (present != 0 || true)) = 1 := by
          have := HT.out.2.1
          rw [hB, HT.out.2.2.2.1] at this
          rw [hB]
          simp at this ⊢
          omega
        rw [hs1]
        go_wp2_with fail
        refine (drop_any (w.heap.size + 1) w.heap.size 1 q _ pool present true wa hqa W0.out hia).mono ?_
        rintro e wc ⟨rfl, hqc, gc⟩
        rw [HT.out.2.2.1] at hqc
        have bc := ba.grown gc ba.size (fun k hk => by cases hk; exact Nat.le_refl _)
        go_wp2_with fail
        refine (has_any _ _ _ _ pool wc hqc W0.out).mono ?_
        rintro e wb ⟨rfl, rfl⟩
        rw [HT.out.1, hB]
        go_wp2_with fail
        refine (count_any _ _ _ _ wc hqc).mono ?_
        rintro e wb ⟨rfl, rfl⟩
        rw [hs1]
        go_wp2
        go_ret
        exact ⟨rfl, bc⟩
      · have hbz : (present != 0) = true := by simp [hz]
        have hB : (present != 0 || true) = true := by rw [hbz]; rfl
        go_wp2_with fail
        refine (drop_any (w.heap.size + 1) w.heap.size 1 q D pool present true w4 hq4 W0.out hi4).mono ?_
        rintro e wa ⟨rfl, hqa, ga⟩
        have hia := hi4.grown ga hqne
        have ba := b4.grown ga b4.size (fun k hk => by cases hk; exact Nat.le_refl _)
        go_wp2_with fail
        refine (has_any _ _ _ _ pool wa hqa W0.out).mono ?_
        rintro e wb ⟨rfl, rfl⟩
        rw [HT.out.1, hB]
        go_wp2_with fail
        refine (count_any _ _ _ _ wa hqa).mono ?_
        rintro e wb ⟨rfl, rfl⟩
        have hs1 : Maps.size (dropD D (.string pool.data.toList) (present != 0 || true)) = 1 := by
          have := HT.out.2.1
          rw [hB, HT.out.2.2.2.1] at this
          rw [hB]
          simp at this ⊢
          omega
        rw [hs1]
        go_wp2_with fail
        refine (drop_any (w.heap.size + 1) w.heap.size 1 q _ pool present true wa hqa W0.out hia).mono ?_
        rintro e wc ⟨rfl, hqc, gc⟩
        rw [HT.out.2.2.1] at hqc
        have bc := ba.grown gc ba.size (fun k hk => by cases hk; exact Nat.le_refl _)
        go_wp2_with fail
        refine (has_any _ _ _ _ pool wc hqc W0.out).mono ?_
        rintro e wb ⟨rfl, rfl⟩
        rw [HT.out.1, hB]
        go_wp2_with fail
        refine (count_any _ _ _ _ wc hqc).mono ?_
        rintro e wb ⟨rfl, rfl⟩
        rw [hs1]
        go_wp2
        go_ret
        exact ⟨rfl, bc⟩
end Go.Proofs.Qxb6618922a.forgets
