/-
  Seat b6616504a: the walk of 'FnHasOrStarAfterAddingName' (function 3), out of its callees' contracts.
-/
import Derived.Test.Qxb6616504aBounds
namespace Go.Proofs.Qxb6616504a.adding
open Go.RowKit Go.Maps Go.WideMaps Go.WideElems

theorem set_kept {w w' : World} {b n : Nat} {p : List UInt8 → Bool} (h : IsSet w b n p) {row : Option Nat} (hg : w.grownBy w' row) (hne : some b ≠ row) : IsSet w' b n p := by
  obtain ⟨D, h1, h2⟩ := h.own
  exact ⟨D, h1.kept hg hne, h2⟩

set_option maxHeartbeats 4000000 in
set_option maxRecDepth 100000 in
theorem walk (a : Option Addr) (len cap : Nat) (ns : List ByteArray) (x y : ByteArray) (w : World) (hl : len ≤ maxLen) (hx : x.size ≤ maxLen) (hy : y.size ≤ maxLen) (hin : NRow w a len ns) :
    Calls Try.prog 3 #[.slice a len cap, .string x, .string y] w fun e w' => e = .returned (.bool true) ∧ Below w.heap.size w w' := by
  have HX := hide hx
  have HY := hide hy
  have HL := hide hl
  unfold maxLen at hx hy hl
  go_enter Try.func3, Try.ntmps3
  go_wp2_with fail
  refine (zz5_any a len cap ns x y w HL.out HX.out HY.out hin).mono ?_
  rintro e w' ⟨b, rfl, rfl⟩
  cases b
  · go_wp2
    go_ret
    exact ⟨rfl, Below.refl _ _⟩
  by_cases h1 : 65536 < len
  · go_wp2
    go_ret
    exact ⟨rfl, Below.refl _ _⟩
  by_cases h2 : 1048576 < x.size
  · go_wp2
    go_ret
    exact ⟨rfl, Below.refl _ _⟩
  by_cases h3 : 1048576 < y.size
  · go_wp2
    go_ret
    exact ⟨rfl, Below.refl _ _⟩
  go_wp2_with fail
  refine (addText_any _ a len cap ns w (by omega) hin).mono ?_
  rintro e w' ⟨m, rfl, rfl⟩
  by_cases h4 : 1048576 < m
  · go_wp2
    go_ret
    exact ⟨rfl, Below.refl _ _⟩
  go_wp2_with fail
  refine (setOf_any a len cap ns w (by omega) hin).mono ?_
  rintro e w1 ⟨rfl, s1, b1⟩
  go_wp2_with fail
  refine (setOf_any a len cap ns w1 (by omega) (hin.below b1)).mono ?_
  rintro e w2 ⟨rfl, s2, b2⟩
  obtain ⟨D, hD1, hD2⟩ := s2.own
  have HO := hide hD1
  have HD2 := hide hD2
  have HIM := hide hD1.isMap
  have s1' := s1.below b2
  have hlt1 : w.heap.size < w1.heap.size := by obtain ⟨D', h, _⟩ := s1.own; exact h.lt
  have b12 := b1.trans (b2.mono b1.size)
  have hkey := key_of x HX.out
  clear hD1 hD2 s1 s2 b1 b2
  go_wp2_with (at_mapUpdate; refine wpList_mapUpdate_own _ rfl _ _ _ 25 rfl 9 27 law9 Try.underlying25 (unitElem (H := Unit)) w1.heap.size len D rfl HO.out (by unfold maxLen; omega) _ _ _ rfl rfl hkey _ [] unitElem_mk ?_; intro w3 hown3 hgrow3)
  have s3 := set_kept s1' hgrow3 (by intro e; have := Option.some.inj e; omega)
  have t3 : IsSet w3 w1.heap.size (len + 1) (fun k => lists ns k || (x.toList == k)) := ⟨_, hown3, fun k => by rw [put_has HIM.out, HD2.out]⟩
  have b3 : Below w.heap.size w w3 := b12.grown hgrow3 b12.size (fun j hj => by cases hj; omega)
  clear hown3 hgrow3 HO HD2 HIM s1' b12
  try go_wp2_with fail
  refine (zOrStar_any w.heap.size len (lists ns) y w3 s3 HY.out).mono ?_
  rintro e w4 ⟨rfl, b4⟩
  go_wp2_with fail
  refine (zOrStar_any w1.heap.size (len + 1) _ y w4 (t3.below b4) HY.out).mono ?_
  rintro e w5 ⟨rfl, b5⟩
  go_wp2_with fail
  refine (zOrStar_any w1.heap.size (len + 1) _ x w5 ((t3.below b4).below b5) HX.out).mono ?_
  rintro e w6 ⟨rfl, b6⟩
  have b46 : Below w.heap.size w w6 := ((b3.trans (b4.mono b3.size)).trans (b5.mono (Nat.le_trans b3.size b4.size))).trans (b6.mono (Nat.le_trans (Nat.le_trans b3.size b4.size) b5.size))
  have hin6 := hin.below b46
  have hsx : (lists ns x.toList || x.toList == x.toList || (lists ns [42] || x.toList == [42])) = true := by simp
  rw [hsx]
  have hyx : (x.toList == y.toList) = (y.toList == x.toList) := by rw [Bool.eq_iff_iff, beq_iff_eq, beq_iff_eq]; exact eq_comm
  simp only [hyx]
  have hst : (⟨#[42]⟩ : ByteArray).toList = [42] := by rw [ByteArray.toList_eq]
  clear s3 t3 b3 b4 b5 b6 hsx hyx
  generalize hN1 : lists ns y.toList = N1
  generalize hN2 : lists ns [42] = N2
  have H1 := hide hN1
  have H2 := hide hN2
  clear hN1 hN2
  cases hr : (y.toList == x.toList)
  · cases ht : (x.toList == [42])
    · cases N1
      · cases N2
        · go_wp2_with fail
          refine (listed_any a len cap ns y w6 (by omega) hin6).mono ?_
          rintro e w' ⟨rfl, rfl⟩
          rw [H1.out]
          go_wp2_with fail
          refine (listed_any a len cap ns ⟨#[42]⟩ w6 (by omega) hin6).mono ?_
          rintro e w' ⟨rfl, rfl⟩
          rw [hst, H2.out]
          go_wp2
          go_ret
          exact ⟨rfl, b46⟩
        · go_wp2_with fail
          refine (listed_any a len cap ns y w6 (by omega) hin6).mono ?_
          rintro e w' ⟨rfl, rfl⟩
          rw [H1.out]
          go_wp2_with fail
          refine (listed_any a len cap ns ⟨#[42]⟩ w6 (by omega) hin6).mono ?_
          rintro e w' ⟨rfl, rfl⟩
          rw [hst, H2.out]
          go_wp2
          go_ret
          exact ⟨rfl, b46⟩
      · cases N2
        · go_wp2_with fail
          refine (listed_any a len cap ns y w6 (by omega) hin6).mono ?_
          rintro e w' ⟨rfl, rfl⟩
          rw [H1.out]
          go_wp2
          go_ret
          exact ⟨rfl, b46⟩
        · go_wp2_with fail
          refine (listed_any a len cap ns y w6 (by omega) hin6).mono ?_
          rintro e w' ⟨rfl, rfl⟩
          rw [H1.out]
          go_wp2
          go_ret
          exact ⟨rfl, b46⟩
    · cases N1
      · cases N2
        · go_wp2_with fail
          refine (listed_any a len cap ns y w6 (by omega) hin6).mono ?_
          rintro e w' ⟨rfl, rfl⟩
          rw [H1.out]
          go_wp2_with fail
          refine (listed_any a len cap ns ⟨#[42]⟩ w6 (by omega) hin6).mono ?_
          rintro e w' ⟨rfl, rfl⟩
          rw [hst, H2.out]
          go_wp2
          go_ret
          exact ⟨rfl, b46⟩
        · go_wp2_with fail
          refine (listed_any a len cap ns y w6 (by omega) hin6).mono ?_
          rintro e w' ⟨rfl, rfl⟩
          rw [H1.out]
          go_wp2_with fail
          refine (listed_any a len cap ns ⟨#[42]⟩ w6 (by omega) hin6).mono ?_
          rintro e w' ⟨rfl, rfl⟩
          rw [hst, H2.out]
          go_wp2
          go_ret
          exact ⟨rfl, b46⟩
      · cases N2
        · go_wp2_with fail
          refine (listed_any a len cap ns y w6 (by omega) hin6).mono ?_
          rintro e w' ⟨rfl, rfl⟩
          rw [H1.out]
          go_wp2
          go_ret
          exact ⟨rfl, b46⟩
        · go_wp2_with fail
          refine (listed_any a len cap ns y w6 (by omega) hin6).mono ?_
          rintro e w' ⟨rfl, rfl⟩
          rw [H1.out]
          go_wp2
          go_ret
          exact ⟨rfl, b46⟩
  · cases ht : (x.toList == [42])
    · cases N1
      · cases N2
        · go_wp2_with fail
          refine (listed_any a len cap ns y w6 (by omega) hin6).mono ?_
          rintro e w' ⟨rfl, rfl⟩
          rw [H1.out]
          go_wp2_with fail
          refine (listed_any a len cap ns ⟨#[42]⟩ w6 (by omega) hin6).mono ?_
          rintro e w' ⟨rfl, rfl⟩
          rw [hst, H2.out]
          go_wp2
          go_ret
          exact ⟨rfl, b46⟩
        · go_wp2_with fail
          refine (listed_any a len cap ns y w6 (by omega) hin6).mono ?_
          rintro e w' ⟨rfl, rfl⟩
          rw [H1.out]
          go_wp2_with fail
          refine (listed_any a len cap ns ⟨#[42]⟩ w6 (by omega) hin6).mono ?_
          rintro e w' ⟨rfl, rfl⟩
          rw [hst, H2.out]
          go_wp2
          go_ret
          exact ⟨rfl, b46⟩
      · cases N2
        · go_wp2_with fail
          refine (listed_any a len cap ns y w6 (by omega) hin6).mono ?_
          rintro e w' ⟨rfl, rfl⟩
          rw [H1.out]
          go_wp2
          go_ret
          exact ⟨rfl, b46⟩
        · go_wp2_with fail
          refine (listed_any a len cap ns y w6 (by omega) hin6).mono ?_
          rintro e w' ⟨rfl, rfl⟩
          rw [H1.out]
          go_wp2
          go_ret
          exact ⟨rfl, b46⟩
    · cases N1
      · cases N2
        · go_wp2_with fail
          refine (listed_any a len cap ns y w6 (by omega) hin6).mono ?_
          rintro e w' ⟨rfl, rfl⟩
          rw [H1.out]
          go_wp2_with fail
          refine (listed_any a len cap ns ⟨#[42]⟩ w6 (by omega) hin6).mono ?_
          rintro e w' ⟨rfl, rfl⟩
          rw [hst, H2.out]
          go_wp2
          go_ret
          exact ⟨rfl, b46⟩
        · go_wp2_with fail
          refine (listed_any a len cap ns y w6 (by omega) hin6).mono ?_
          rintro e w' ⟨rfl, rfl⟩
          rw [H1.out]
          go_wp2_with fail
          refine (listed_any a len cap ns ⟨#[42]⟩ w6 (by omega) hin6).mono ?_
          rintro e w' ⟨rfl, rfl⟩
          rw [hst, H2.out]
          go_wp2
          go_ret
          exact ⟨rfl, b46⟩
      · cases N2
        · go_wp2_with fail
          refine (listed_any a len cap ns y w6 (by omega) hin6).mono ?_
          rintro e w' ⟨rfl, rfl⟩
          rw [H1.out]
          go_wp2
          go_ret
          exact ⟨rfl, b46⟩
        · go_wp2_with fail
          refine (listed_any a len cap ns y w6 (by omega) hin6).mono ?_
          rintro e w' ⟨rfl, rfl⟩
          rw [H1.out]
          go_wp2
          go_ret
          exact ⟨rfl, b46⟩
end Go.Proofs.Qxb6616504a.adding
