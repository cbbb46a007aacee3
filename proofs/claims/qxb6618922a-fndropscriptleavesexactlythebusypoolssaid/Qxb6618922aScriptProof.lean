/-
  Seat b6618922a: 'Rows.FnDropScriptLeavesExactlyTheBusyPoolsSaid': the row's step, after the shells of the seats; the walk lies in Qxb6618922aScriptWalk.
-/
import Derived.Test.Qxb6618922aScriptWalk
import Derived.OpenShut
import Derived.ShutString
import Derived.ChangeOld
import Derived.Deep.Slices
import Derived.Deep.Strs
namespace Go.Proofs.Qxb6618922a.fnDropScriptLeavesExactlyTheBusyPools
open Go.ChangeShapes Go.WideShapes Go.ChangeAt Go.RowKit
open Go.ChangeMaps (open_string shut_string)
set_option linter.unusedVariables false

theorem own : ownKnob Try.prog.godebug = none := by kernel_rfl
theorem laidOut : laidOutB Try.prog = true := by kernel_rfl

theorem cells44 : Try.prog.cellsOf 44 = 3 := by kernel_rfl
theorem cells9 : Try.prog.cellsOf 9 = 1 := by kernel_rfl
theorem cells3 : Try.prog.cellsOf 3 = 1 := by kernel_rfl
theorem cells4 : Try.prog.cellsOf 4 = 1 := by kernel_rfl

theorem three_of {l : List Value} (h : l.length = 3) : ∃ v0 v1 v2, l = [v0, v1, v2] := by
  match l, h with
  | [v0, v1, v2], _ => exact ⟨v0, v1, v2, rfl⟩

theorem steps_open {H : Type} {enc : TypeId × Value → H} {W : World} {a : Option Addr} {len cap : Nat} {d : DataW H} {p : List MemPlace} (h : DataW.Trod enc Try.prog W 0 (fun _ => true) true 41 (.slice a len cap) d p) :
    ∃ ss, SRow W a len ss ∧ len ≤ maxLen := by
  obtain ⟨fuel, hf⟩ := h
  rcases Deep.open_slice Try.underlying41 hf with ⟨hcs, _⟩ | ⟨x, l, c, m, n, Dd, Pl, hcs, _, hlc, hcm, hmm, _, hall⟩
  · simp [Value.cells] at hcs
    obtain ⟨rfl, rfl, rfl⟩ := hcs
    exact ⟨[], ⟨rfl, fun h => by omega⟩, Nat.zero_le _⟩
  · simp [Value.cells] at hcs
    obtain ⟨rfl, rfl, rfl⟩ := hcs
    simp only [if_true] at hmm
    subst hmm
    rw [cells44] at hall
    have each : ∀ i, i < m → ∃ s : ByteArray × Int × Bool, W.cell? (x.add (i * 3)) = some (.string s.1) ∧ W.cell? ((x.add (i * 3)).add 1) = some (.int .i64 s.2.1) ∧ W.cell? ((x.add (i * 3)).add 2) = some (.bool s.2.2) := fun i hi => by
      obtain ⟨cs, h1, h2⟩ := hall i hi
      obtain ⟨_, h3, h4⟩ := World.cells?_some h1
      obtain ⟨y0, y1, y2, n', _, _, t0, t1, t2⟩ := Deep.trod_struct3 Try.underlying44 h2
      obtain ⟨v0, v1, v2, rfl⟩ := three_of h3
      obtain ⟨s, e0, _, _⟩ := DataW.trod_string Try.underlying9 t0
      obtain ⟨z, e1, _, _⟩ := DataW.trod_int Try.underlying3 t1
      obtain ⟨b, e2, _⟩ := DataW.trod_bool Try.underlying4 t2
      simp [cells9] at e0
      simp [cells3] at e1
      simp [cells4] at e2
      subst e0 e1 e2
      refine ⟨⟨s, z, b⟩, ?_, ?_, ?_⟩
      · simpa [Addr.add] using h4 0 (by omega)
      · simpa using h4 1 (by omega)
      · simpa using h4 2 (by omega)
    obtain ⟨S, hS⟩ := Deep.choose_lt each
    refine ⟨(List.range len).map (fun i => ⟨(S i).1, (S i).2.1, (S i).2.2⟩), ⟨by simp, fun h0 => ?_⟩, by omega⟩
    obtain ⟨b, off, sp⟩ := x
    have hsp : sp = none := by simpa [Addr.add] using World.cell?_spot (hS 0 (by omega)).1
    subst hsp
    refine ⟨b, off, rfl, ?_, fun j s hs => ?_⟩
    · have := World.block_lt_of_cell? _ _ (hS 0 (by omega)).1
      simpa [Addr.add] using this
    · obtain ⟨hj, e⟩ := List.getElem?_eq_some_iff.1 hs
      simp at hj
      have e' : (⟨(S j).1, (S j).2.1, (S j).2.2⟩ : Step) = s := by simpa using e
      subst e'
      obtain ⟨c0, c1, c2⟩ := hS j (by omega)
      rw [Go.WideShapes.add_plain] at c0 c1 c2
      rw [Go.WideShapes.add_plain] at c1 c2
      exact ⟨c0, c1, c2⟩

/-! ### THE ROW's STEP -/
set_option maxRecDepth 100000 in
theorem lifted (os : Os) (started : os.Started) (H : Type) (enc : TypeId × Value → H) :
    ReturnsInHanded {} Try.checked os 8 .any (Rows.fnDropScriptLeavesExactlyTheBusyPoolsSpec.pre6 enc Try.prog Try.f8 Rows.fnDropScriptLeavesExactlyTheBusyPoolsRow.domain false) (Rows.fnDropScriptLeavesExactlyTheBusyPoolsSpec.post enc Try.prog Try.f8 false true false false) := by
  refine returnsInHanded_of_change (C := Try.checked) own started (by kernel_rfl) Try.func8
    (ChangeSpec.witness6 (enc := enc) (C := Try.checked) false ⟨#[], #[.slice none 0 0], []⟩ 8 (by kernel_rfl) (by kernel_rfl) (by kernel_rfl) (by kernel_rfl)) ?_
  intro W base args ds gs before hval0 hW hcnd _
  have hval : ∀ (j : Nat) t v, Try.f8.params[j]? = some t → args[j]? = some v → Value.okWide Try.prog W .any base t v := hval0
  have hW' := hW
  obtain ⟨p, q, hA0, hV, rfl, hfz, hnd⟩ := hW
  have hA : DataW.TrodAll enc Try.prog W 0 (fun _ => true) true Try.f8.params.toList args.toList ds p := hA0
  rw [Try.params8] at hA hval
  obtain ⟨v0, vs0, d0, ds0, p0, q0, hargs, rfl, rfl, h0, r0⟩ := trodAll_cons hA
  obtain ⟨rfl, rfl, rfl⟩ := trodAll_nil r0
  obtain rfl : args = #[v0] := by cases args; simp_all
  obtain ⟨rfl, rfl⟩ := trodVars_none hV
  obtain ⟨a0, len0, cap0, rfl⟩ := okWide_slice Try.underlying41 (hval 0 41 v0 rfl rfl)
  have k0 := h0
  have lt0 : ∀ x ∈ p0, x.block < W.heap.size := by obtain ⟨m, hm⟩ := k0; exact DataW.trod_lt m _ _ _ hm
  obtain ⟨ss, hin, hl⟩ := steps_open h0
  clear hA0 hval0
  refine (script.walk a0 len0 cap0 ss W hl hin).mono fun e W' ⟨he, bel⟩ => ?_
  subst he
  exact ⟨_, rfl, _, _, _, [], _, [], hW', trodAll_mk1 (shut_bool Try.underlying4 _), (trodAll_cons_mk (Below.trod laidOut (by kernel_rfl) (of_decide_eq_true (by kernel_rfl)) k0 bel lt0) trodAll_mk0), rfl, bel.frame _, fun h => by cases h⟩

theorem over : Rows.fnDropScriptLeavesExactlyTheBusyPoolsRow.holds Try.pinned (OpenSpec.ofChange Rows.fnDropScriptLeavesExactlyTheBusyPoolsSpec) :=
  OpenClaim.holds_of_wide 8 Try.f8 rfl rfl rfl rfl rfl rfl rfl ⟨rfl, rfl, rfl, rfl, rfl⟩ rfl rfl rfl rfl rfl (by kernel_rfl) Try.func8 (by kernel_rfl)
    (of_decide_eq_true (by kernel_rfl)) (by unfold Func.isWrapper; first | (rw [if_pos (by decide +kernel)]; kernel_rfl) | (rw [if_neg (by decide +kernel)]; exact ⟨rfl, rfl⟩))
    (fun os started H enc _ => lifted os started H enc)

/-- THE STATEMENT -/
theorem proved : Rows.FnDropScriptLeavesExactlyTheBusyPoolsSaid := over
end Go.Proofs.Qxb6618922a.fnDropScriptLeavesExactlyTheBusyPools
