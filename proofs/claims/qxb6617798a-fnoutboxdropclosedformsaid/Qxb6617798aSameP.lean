/-
  Seat b6617798a: 'samePayloads' (function 10) at slices that read alike: its contract.
-/
import Derived.Test.Qxb6617798aSame
import Derived.Test.Qxb6617798aPays
namespace Go.Proofs.Qxb6617798a
open Go.RowKit

/-- Two byte slices that read alike. -/
theorem sameBytes_at {w : World} {v v' : Value} {o : Option (List Int)} (h : PayAt w v o) (h' : PayAt w v' o) (hsm : ∀ bs, o = some bs → bs.length ≤ 100000000) :
    ∃ y l c y' l' c', v = .slice y l c ∧ v' = .slice y' l' c' ∧ ∀ q, Calls Try.prog 17 #[.slice y l c, .slice y' l' c'] (w.drewN q) fun e w' => e = .returned (.bool true) ∧ ∃ p, w' = (w.drewN q).drewN p := by
  cases o with
  | none => exact ⟨none, 0, 0, none, 0, 0, h, h', fun q => sameBytes_yes none none 0 0 0 [] (w.drewN q) (by omega) rfl (fun h => by omega) (fun h => by omega)⟩
  | some bs =>
    obtain ⟨x, c, e, hat⟩ := h
    obtain ⟨x', c', e', hat'⟩ := h'
    have := hsm bs rfl
    refine ⟨_, _, _, _, _, _, e, e', fun q => sameBytes_yes (some x) (some x') bs.length c c' bs (w.drewN q) (by omega) rfl (fun h0 => ?_) (fun h0 => ?_)⟩
    · obtain ⟨b, off, e1, _, hc⟩ := hat h0
      exact ⟨b, off, by rw [e1], hc⟩
    · obtain ⟨b, off, e1, _, hc⟩ := hat' h0
      exact ⟨b, off, by rw [e1], hc⟩

set_option maxHeartbeats 1000000 in
set_option maxRecDepth 100000 in
/-- samePayloads at two slices that read alike. -/
theorem samePays_yes (a a' : Option Addr) (len c c' : Nat) (ps : List (Option (List Int))) (w : World) (hl : len ≤ 1000000) (hn : a.isNone = a'.isNone) (h : PIn w a len ps) (h' : PIn w a' len ps) (hsm : ∀ bs, some bs ∈ ps → bs.length ≤ 100000000) :
    Calls Try.prog 10 #[.slice a len c, .slice a' len c'] w fun e w' => e = .returned (.bool true) ∧ ∃ q, w' = w.drewN q := by
  have hq := fun wx : World => Lib.run_eql_slice_nil (P := Try.prog) wx 22 30 a len c 0 0 Try.underlying22
  have hq' := fun wx : World => Lib.run_eql_slice_nil (P := Try.prog) wx 22 30 a' len c' 0 0 Try.underlying22
  rw [← hn] at hq'
  generalize a.isNone = na at hq hq'
  clear hn
  go_enter Try.func10, Try.ntmps10
  go_wp2
  go_loopw [5] (fun i wr => ∃ (k q : Nat), k ≤ len ∧ i = .int .i64 k ∧ wr = w.drewN q) (fun i _ => len - (intOf i).toNat)
  case atStart => exact ⟨0, 0, Nat.zero_le _, rfl, rfl⟩
  case round =>
    obtain ⟨k, q, hk, rfl, rfl⟩ := hrel
    by_cases hlt : k < len
    · obtain ⟨b, off, rfl, _, hcell⟩ := h.at_ (by omega)
      obtain ⟨b', off', rfl, _, hcell'⟩ := h'.at_ (by omega)
      obtain ⟨v, h1, p1⟩ := hcell k hlt
      obtain ⟨v', h2, p2⟩ := hcell' k hlt
      have hmem : ∀ bs, ps.getD k none = some bs → bs.length ≤ 100000000 := fun bs hb => hsm bs (by
        have hkp : k < ps.length := by have := h.len_eq; omega
        have : ps.getD k none = ps[k] := by simp [List.getD, hkp]
        rw [← hb, this]
        exact List.getElem_mem hkp)
      obtain ⟨y, l, d, y', l', d', rfl, rfl, hc⟩ := sameBytes_at p1 p2 hmem
      have HC := hide hc
      have hlt' : (k : Int) < (len : Int) := by omega
      clear hcell hcell' p1 p2 hc hmem
      go_wp2
      go_quiet ((go_at_call 17; refine (HC.out _).mono ?_; rintro e w3 ⟨rfl, p, rfl⟩; exact ⟨rfl, _, by rw [World.drewN_drewN, Nat.add_assoc]⟩))
      go_wp2
      go_roundw
      case rel => exact ⟨k + 1, _, by omega, by go_num, rfl⟩
      case measure => simp [intOf]; omega
    · go_wp2
      go_ret
      exact ⟨rfl, _, rfl⟩
end Go.Proofs.Qxb6617798a
