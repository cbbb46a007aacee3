/-
  Seat b6617798a: the plain side: an outbox's batches as a list of numbers. No Go in sight.
-/
import Derived.RowKit
namespace Go.Proofs.Qxb6617798a.Plain
open Go.RowKit (wrap64)

/-- What the loop of 'drop' has left: the batches, 'batched', 'handed', 'handedMessages', 'done'. -/
structure St where
  bs : List Int
  bt : Int
  h : Int
  hm : Int
  d : Int

/-- The loop: as long as the first batch fits. -/
def run : List Int → Int → Int → Int → Int → St
  | [], bt, h, hm, d => ⟨[], bt, h, hm, d⟩
  | c :: rest, bt, h, hm, d => if c ≤ d then run rest (wrap64 (bt - c)) (if 0 < h then wrap64 (h - 1) else h) (if 0 < h then wrap64 (hm - c) else hm) (d - c) else ⟨c :: rest, bt, h, hm, d⟩

theorem run_fit_pos {c : Int} {rest : List Int} {bt h hm d : Int} (hc : c ≤ d) (hh : 0 < h) : run (c :: rest) bt h hm d = run rest (wrap64 (bt - c)) (wrap64 (h - 1)) (wrap64 (hm - c)) (d - c) := by
  rw [run, if_pos hc, if_pos hh, if_pos hh]
theorem run_fit_neg {c : Int} {rest : List Int} {bt h hm d : Int} (hc : c ≤ d) (hh : ¬ 0 < h) : run (c :: rest) bt h hm d = run rest (wrap64 (bt - c)) h hm (d - c) := by
  rw [run, if_pos hc, if_neg hh, if_neg hh]
theorem run_stop {c : Int} {rest : List Int} {bt h hm d : Int} (hc : ¬ c ≤ d) : run (c :: rest) bt h hm d = ⟨c :: rest, bt, h, hm, d⟩ := by
  rw [run, if_neg hc]

/-- What 'drop' leaves of batches, batched, handed, handedMessages, waiting. -/
structure Out where
  bs : List Int
  bt : Int
  h : Int
  hm : Int
  wt : Int

def fin (s : St) (wt : Int) : Out := if 0 < s.d then ⟨[], 0, 0, 0, 0⟩ else ⟨s.bs, s.bt, s.h, s.hm, wt⟩

def drop (bs : List Int) (bt h hm wt d : Int) : Out := fin (run bs bt h hm d) wt

theorem drop_pos {zs : List Int} {bt h hm wt d : Int} {s : St} (hr : s = run zs bt h hm d) (hd : 0 < s.d) : drop zs bt h hm wt d = ⟨[], 0, 0, 0, 0⟩ := by
  rw [drop, ← hr, fin, if_pos hd]
theorem drop_neg {zs : List Int} {bt h hm wt d : Int} {s : St} (hr : s = run zs bt h hm d) (hd : ¬ 0 < s.d) : drop zs bt h hm wt d = ⟨s.bs, s.bt, s.h, s.hm, wt⟩ := by
  rw [drop, ← hr, fin, if_neg hd]

end Go.Proofs.Qxb6617798a.Plain
