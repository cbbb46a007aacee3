/-
  Seat b6616504a: the walk of 'FnHasOrStarStarCoversEveryName' (function 4), out of its callees' contracts.
-/
import Derived.Test.Qxb6616504aBounds
namespace Go.Proofs.Qxb6616504a.star
open Go.RowKit Go.Maps Go.WideMaps Go.WideElems

theorem set_kept {w w' : World} {b n : Nat} {p : List UInt8 → Bool} (h : IsSet w b n p) {row : Option Nat} (hg : w.grownBy w' row) (hne : some b ≠ row) : IsSet w' b n p := by
  obtain ⟨D, h1, h2⟩ := h.own
  exact ⟨D, h1.kept hg hne, h2⟩

/-- Listed, and not the star. -/
def bare (ns : List ByteArray) (k : List UInt8) : Bool := !(k == [42]) && lists ns k

theorem bare_snoc_star (ns : List ByteArray) (s : ByteArray) (k : List UInt8) (h : (s.toList == [42]) = true) : bare (ns ++ [s]) k = bare ns k := by
  unfold bare
  rw [lists_snoc]
  have e : s.toList = [42] := by simpa using h
  rw [e]
  by_cases hk : k = [42]
  · subst hk; simp
  · have : (([42] : List UInt8) == k) = false := by rw [beq_eq_false_iff_ne]; exact fun e => hk e.symm
    rw [this]; simp

theorem bare_snoc_other (ns : List ByteArray) (s : ByteArray) (k : List UInt8) (h : (s.toList == [42]) = false) : bare (ns ++ [s]) k = (bare ns k || (s.toList == k)) := by
  unfold bare
  rw [lists_snoc]
  by_cases hk : k = [42]
  · subst hk; simp [h]
  · have : (k == [42]) = false := by rw [beq_eq_false_iff_ne]; exact hk
    rw [this]; simp

set_option maxHeartbeats 4000000 in
set_option maxRecDepth 100000 in
theorem walk (a : Option Addr) (len cap : Nat) (ns : List ByteArray) (x : ByteArray) (w : World) (hl : len ≤ maxLen) (hx : x.size ≤ maxLen) (hin : NRow w a len ns) :
    Calls Try.prog 4 #[.slice a len cap, .string x] w fun e w' => e = .returned (.bool true) ∧ Below w.heap.size w w' := by
  have HX := hide hx
  have HL := hide hl
  have hmk := make25
  unfold maxLen at hx hl
  go_enter Try.func4, Try.ntmps4
  go_wp2_with fail
  refine (zz10_any a len cap ns x w HL.out HX.out hin).mono ?_
  rintro e w' ⟨b, rfl, rfl⟩
  cases b
  · go_wp2
    go_ret
    exact ⟨rfl, Below.refl _ _⟩
  by_cases h1 : 65536 < len
  · go_wp2
    go_ret
    exact ⟨rfl, Below.refl _ _⟩
  by_cases h2 : 1048576 < x.size
  · go_wp2
    go_ret
    exact ⟨rfl, Below.refl _ _⟩
  go_wp2_with fail
  refine (addText_any _ a len cap ns w (by omega) hin).mono ?_
  rintro e w' ⟨m, rfl, rfl⟩
  by_cases h4 : 1048576 < m
  · go_wp2
    go_ret
    exact ⟨rfl, Below.refl _ _⟩
  go_wp2_with fail
  refine (setOf_any a len cap ns w (by omega) hin).mono ?_
  rintro e w1 ⟨rfl, s1, b1⟩
  have hlt1 : w.heap.size < w1.heap.size := by obtain ⟨D', h, _⟩ := s1.own; exact h.lt
  have S1 := hide s1
  clear s1
  go_wp2
  go_loopw [7] (fun i wr => ∃ (k : Nat) (D : DataW Unit), k ≤ len ∧ i = .int .i64 k ∧ wr.ownsMap Try.prog 9 unitElem w1.heap.size k D ∧ (∀ key, Maps.has D (.string key) = bare (ns.take k) key) ∧ Below w1.heap.size w1 wr) (fun i _ => len - (intOf i).toNat)
  case atStart => exact ⟨0, .map [], Nat.zero_le _, rfl, World.ownsMap_made _ _ _ _, fun k => by simp [bare, lists]; rfl, (Below.refl _ _).alloc (Nat.le_refl _) _⟩
  case round =>
    obtain ⟨k, D, hk, rfl, hown, hhas, hbel⟩ := hrel
    have HO := hide hown
    have HH := hide hhas
    clear hown hhas
    by_cases hlt : k < len
    · obtain ⟨b, off, s, rfl, hs, hsz, c0⟩ := ((hin.below b1).below hbel).get hlt
      have HSn := hide (take_snoc hs)
      have hkey := key_of s hsz
      have HIM := hide HO.out.isMap
      clear hs
      cases hq : (s.toList == [42])
      · go_wp2_with (at_mapUpdate; refine wpList_mapUpdate_own _ rfl _ _ _ 25 rfl 9 27 law9 Try.underlying25 (unitElem (H := Unit)) w1.heap.size k D rfl HO.out (by unfold maxLen; omega) _ _ _ rfl rfl hkey _ [] unitElem_mk ?_; intro w2 hown2 hgrow2)
        go_roundw
        case rel => exact ⟨k + 1, _, by omega, by go_num, hown2, fun key => by rw [put_has HIM.out, HH.out, HSn.out, bare_snoc_other _ _ _ hq], hbel.grown hgrow2 hbel.size (fun j hj => by cases hj; exact Nat.le_refl _)⟩
        case measure => simp [intOf]; omega
      · go_wp2
        go_roundw
        case rel => exact ⟨k + 1, D, by omega, by go_num, HO.out.mono (Nat.le_succ _), fun key => by rw [HH.out, HSn.out, bare_snoc_star _ _ _ hq], hbel⟩
        case measure => simp [intOf]; omega
    · obtain rfl : k = len := by omega
      have SW : Hid (IsSet wr w1.heap.size k (bare ns)) := ⟨D, HO.out, fun key => by rw [HH.out, List.take_of_length_le (by have := hin.len_eq; omega)]⟩
      have hltw := HO.out.lt
      have hinr := (hin.below b1).below hbel
      have br := b1.trans (hbel.mono (Nat.le_of_lt hlt1))
      have SN : Hid (IsSet wr w.heap.size k (lists ns)) := S1.out.below hbel
      clear HO HH S1 hk hlt
      go_wp2_with fail
      refine (setOf_any a k cap ns wr (by omega) hinr).mono ?_
      rintro e w4 ⟨rfl, s4, b4⟩
      obtain ⟨D4, hD1, hD2⟩ := s4.own
      have HO := hide hD1
      have HD2 := hide hD2
      have HIM := hide hD1.isMap
      have SW4 := hide (SW.out.below b4)
      have SN4 := hide (SN.out.below b4)
      have br4 := br.trans (b4.mono br.size)
      have hst : (⟨#[42]⟩ : ByteArray).toList = [42] := by rw [ByteArray.toList_eq]
      have hkey : keyOf Try.prog 9 (.string ⟨#[42]⟩) = some (.string [42]) := by have := key_of ⟨#[42]⟩ (by decide); rw [hst] at this; exact this
      have hs1 := hbel.size
      clear hD1 hD2 s4 SW SN b4
      go_wp2_with (at_mapUpdate; refine wpList_mapUpdate_own _ rfl _ _ _ 25 rfl 9 27 law9 Try.underlying25 (unitElem (H := Unit)) wr.heap.size k D4 rfl HO.out (by unfold maxLen; omega) _ _ _ rfl rfl hkey _ [] unitElem_mk ?_; intro w5 hown5 hgrow5)
      have u5 : IsSet w5 wr.heap.size (k + 1) (fun key => lists ns key || ([42] == key)) := ⟨_, hown5, fun key => by rw [put_has HIM.out, HD2.out]⟩
      have v5 := set_kept SW4.out hgrow5 (by intro e; have := Option.some.inj e; omega)
      have n5 := set_kept SN4.out hgrow5 (by intro e; have := Option.some.inj e; omega)
      have b5 : Below w.heap.size w w5 := br4.grown hgrow5 br4.size (fun j hj => by cases hj; omega)
      clear hown5 hgrow5 HO HD2 HIM SW4 SN4 br br4
      have hsv : (lists ns x.toList || [42] == x.toList || (lists ns [42] || ([42] : List UInt8) == [42])) = true := by simp
      have HSV := hide hsv
      have hb42 : bare ns [42] = false := by simp [bare]
      clear hsv hbel hinr
      cases ht : (x.toList == [42])
      · have hbx : bare ns x.toList = lists ns x.toList := by unfold bare; rw [ht]; simp
        cases N1 : lists ns x.toList
        · cases N2 : lists ns [42]
          · have HW : Hid ((bare ns x.toList || bare ns [42]) = false) := by show _ = _; rw [hbx, hb42, N1]; rfl
            have HN : Hid ((lists ns x.toList || lists ns [42]) = false) := by show _ = _; rw [N1, N2]; rfl
            have H1 := hide N1
            have H2 := hide N2
            clear N1 N2 hbx hb42
            try go_wp2_with fail
            refine (zOrStar_any w1.heap.size k (bare ns) x w5 v5 HX.out).mono ?_
            rintro e w6 ⟨rfl, b6⟩
            rw [HW.out]
            go_wp2_with fail
            refine (zOrStar_any wr.heap.size (k + 1) _ x w6 (u5.below b6) HX.out).mono ?_
            rintro e w7 ⟨rfl, b7⟩
            rw [HSV.out]
            go_wp2_with fail
            refine (zOrStar_any w.heap.size k (lists ns) x w7 ((n5.below b6).below b7) HX.out).mono ?_
            rintro e w8 ⟨rfl, b8⟩
            rw [HN.out]
            have b58 : Below w.heap.size w w8 := ((b5.trans (b6.mono b5.size)).trans (b7.mono (Nat.le_trans b5.size b6.size))).trans (b8.mono (Nat.le_trans (Nat.le_trans b5.size b6.size) b7.size))
            have hin8 := hin.below b58
            clear v5 u5 n5 b5 b6 b7 b8
            go_wp2_with fail
            refine (listed_any a k cap ns x w8 (by omega) hin8).mono ?_
            rintro e w' ⟨rfl, rfl⟩
            rw [H1.out]
            go_wp2_with fail
            refine (listed_any a k cap ns ⟨#[42]⟩ w8 (by omega) hin8).mono ?_
            rintro e w' ⟨rfl, rfl⟩
            rw [hst, H2.out]
            go_wp2
            go_ret
            exact ⟨rfl, b58⟩
          · have HW : Hid ((bare ns x.toList || bare ns [42]) = false) := by show _ = _; rw [hbx, hb42, N1]; rfl
            have HN : Hid ((lists ns x.toList || lists ns [42]) = true) := by show _ = _; rw [N1, N2]; rfl
            have H1 := hide N1
            have H2 := hide N2
            clear N1 N2 hbx hb42
            try go_wp2_with fail
            refine (zOrStar_any w1.heap.size k (bare ns) x w5 v5 HX.out).mono ?_
            rintro e w6 ⟨rfl, b6⟩
            rw [HW.out]
            go_wp2_with fail
            refine (zOrStar_any wr.heap.size (k + 1) _ x w6 (u5.below b6) HX.out).mono ?_
            rintro e w7 ⟨rfl, b7⟩
            rw [HSV.out]
            go_wp2_with fail
            refine (zOrStar_any w.heap.size k (lists ns) x w7 ((n5.below b6).below b7) HX.out).mono ?_
            rintro e w8 ⟨rfl, b8⟩
            rw [HN.out]
            have b58 : Below w.heap.size w w8 := ((b5.trans (b6.mono b5.size)).trans (b7.mono (Nat.le_trans b5.size b6.size))).trans (b8.mono (Nat.le_trans (Nat.le_trans b5.size b6.size) b7.size))
            have hin8 := hin.below b58
            clear v5 u5 n5 b5 b6 b7 b8
            go_wp2_with fail
            refine (listed_any a k cap ns x w8 (by omega) hin8).mono ?_
            rintro e w' ⟨rfl, rfl⟩
            rw [H1.out]
            go_wp2_with fail
            refine (listed_any a k cap ns ⟨#[42]⟩ w8 (by omega) hin8).mono ?_
            rintro e w' ⟨rfl, rfl⟩
            rw [hst, H2.out]
            go_wp2
            go_ret
            exact ⟨rfl, b58⟩
        · cases N2 : lists ns [42]
          · have HW : Hid ((bare ns x.toList || bare ns [42]) = true) := by show _ = _; rw [hbx, hb42, N1]; rfl
            have HN : Hid ((lists ns x.toList || lists ns [42]) = true) := by show _ = _; rw [N1, N2]; rfl
            have H1 := hide N1
            have H2 := hide N2
            clear N1 N2 hbx hb42
            try go_wp2_with fail
            refine (zOrStar_any w1.heap.size k (bare ns) x w5 v5 HX.out).mono ?_
            rintro e w6 ⟨rfl, b6⟩
            rw [HW.out]
            go_wp2_with fail
            refine (zOrStar_any wr.heap.size (k + 1) _ x w6 (u5.below b6) HX.out).mono ?_
            rintro e w7 ⟨rfl, b7⟩
            rw [HSV.out]
            go_wp2_with fail
            refine (zOrStar_any w.heap.size k (lists ns) x w7 ((n5.below b6).below b7) HX.out).mono ?_
            rintro e w8 ⟨rfl, b8⟩
            rw [HN.out]
            have b58 : Below w.heap.size w w8 := ((b5.trans (b6.mono b5.size)).trans (b7.mono (Nat.le_trans b5.size b6.size))).trans (b8.mono (Nat.le_trans (Nat.le_trans b5.size b6.size) b7.size))
            have hin8 := hin.below b58
            clear v5 u5 n5 b5 b6 b7 b8
            go_wp2_with fail
            refine (listed_any a k cap ns x w8 (by omega) hin8).mono ?_
            rintro e w' ⟨rfl, rfl⟩
            rw [H1.out]
            go_wp2
            go_ret
            exact ⟨rfl, b58⟩
          · have HW : Hid ((bare ns x.toList || bare ns [42]) = true) := by show _ = _; rw [hbx, hb42, N1]; rfl
            have HN : Hid ((lists ns x.toList || lists ns [42]) = true) := by show _ = _; rw [N1, N2]; rfl
            have H1 := hide N1
            have H2 := hide N2
            clear N1 N2 hbx hb42
            try go_wp2_with fail
            refine (zOrStar_any w1.heap.size k (bare ns) x w5 v5 HX.out).mono ?_
            rintro e w6 ⟨rfl, b6⟩
            rw [HW.out]
            go_wp2_with fail
            refine (zOrStar_any wr.heap.size (k + 1) _ x w6 (u5.below b6) HX.out).mono ?_
            rintro e w7 ⟨rfl, b7⟩
            rw [HSV.out]
            go_wp2_with fail
            refine (zOrStar_any w.heap.size k (lists ns) x w7 ((n5.below b6).below b7) HX.out).mono ?_
            rintro e w8 ⟨rfl, b8⟩
            rw [HN.out]
            have b58 : Below w.heap.size w w8 := ((b5.trans (b6.mono b5.size)).trans (b7.mono (Nat.le_trans b5.size b6.size))).trans (b8.mono (Nat.le_trans (Nat.le_trans b5.size b6.size) b7.size))
            have hin8 := hin.below b58
            clear v5 u5 n5 b5 b6 b7 b8
            go_wp2_with fail
            refine (listed_any a k cap ns x w8 (by omega) hin8).mono ?_
            rintro e w' ⟨rfl, rfl⟩
            rw [H1.out]
            go_wp2
            go_ret
            exact ⟨rfl, b58⟩
      · have hbx : bare ns x.toList = false := by unfold bare; rw [ht]; simp
        have hxe : x.toList = [42] := by simpa using ht
        cases N2 : lists ns [42]
        · have HW : Hid ((bare ns x.toList || bare ns [42]) = false) := by show _ = _; rw [hbx, hb42]; rfl
          have HN : Hid ((lists ns x.toList || lists ns [42]) = false) := by show _ = _; rw [hxe, N2]; rfl
          have H2 := hide N2
          clear N2 hbx hb42 hxe
          try go_wp2_with fail
          refine (zOrStar_any w1.heap.size k (bare ns) x w5 v5 HX.out).mono ?_
          rintro e w6 ⟨rfl, b6⟩
          rw [HW.out]
          go_wp2_with fail
          refine (zOrStar_any wr.heap.size (k + 1) _ x w6 (u5.below b6) HX.out).mono ?_
          rintro e w7 ⟨rfl, b7⟩
          rw [HSV.out]
          go_wp2_with fail
          refine (zOrStar_any w.heap.size k (lists ns) x w7 ((n5.below b6).below b7) HX.out).mono ?_
          rintro e w8 ⟨rfl, b8⟩
          rw [HN.out]
          have b58 : Below w.heap.size w w8 := ((b5.trans (b6.mono b5.size)).trans (b7.mono (Nat.le_trans b5.size b6.size))).trans (b8.mono (Nat.le_trans (Nat.le_trans b5.size b6.size) b7.size))
          have hin8 := hin.below b58
          clear v5 u5 n5 b5 b6 b7 b8
          go_wp2_with fail
          refine (listed_any a k cap ns ⟨#[42]⟩ w8 (by omega) hin8).mono ?_
          rintro e w' ⟨rfl, rfl⟩
          rw [hst, H2.out]
          go_wp2
          go_ret
          exact ⟨rfl, b58⟩
        · have HW : Hid ((bare ns x.toList || bare ns [42]) = false) := by show _ = _; rw [hbx, hb42]; rfl
          have HN : Hid ((lists ns x.toList || lists ns [42]) = true) := by show _ = _; rw [hxe, N2]; rfl
          have H2 := hide N2
          clear N2 hbx hb42 hxe
          try go_wp2_with fail
          refine (zOrStar_any w1.heap.size k (bare ns) x w5 v5 HX.out).mono ?_
          rintro e w6 ⟨rfl, b6⟩
          rw [HW.out]
          go_wp2_with fail
          refine (zOrStar_any wr.heap.size (k + 1) _ x w6 (u5.below b6) HX.out).mono ?_
          rintro e w7 ⟨rfl, b7⟩
          rw [HSV.out]
          go_wp2_with fail
          refine (zOrStar_any w.heap.size k (lists ns) x w7 ((n5.below b6).below b7) HX.out).mono ?_
          rintro e w8 ⟨rfl, b8⟩
          rw [HN.out]
          have b58 : Below w.heap.size w w8 := ((b5.trans (b6.mono b5.size)).trans (b7.mono (Nat.le_trans b5.size b6.size))).trans (b8.mono (Nat.le_trans (Nat.le_trans b5.size b6.size) b7.size))
          have hin8 := hin.below b58
          clear v5 u5 n5 b5 b6 b7 b8
          go_wp2_with fail
          refine (listed_any a k cap ns ⟨#[42]⟩ w8 (by omega) hin8).mono ?_
          rintro e w' ⟨rfl, rfl⟩
          rw [hst, H2.out]
          go_wp2
          go_ret
          exact ⟨rfl, b58⟩
end Go.Proofs.Qxb6616504a.star
