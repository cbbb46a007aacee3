/-
  Seat b6618922a: the plain side of the script: which pools are held, and how many.
-/
import Derived.Test.Qxb6618922aPlain
namespace Go.Proofs.Qxb6618922a.Script
open Go.Maps

/-- A pool's name and whether its queue is busy. -/
structure Ev where
  key : List UInt8
  busy : Bool

def later (l : List Ev) (k : List UInt8) : Bool := l.any fun y => y.key == k

/-- Was the last queue under that name busy? -/
def lastB : List Ev → List UInt8 → Bool
  | [], _ => false
  | x :: l, k => if later l k then lastB l k else (x.key == k && x.busy)

/-- How many names ended busy: each counted at its last step. -/
def cntL : List Ev → Nat
  | [] => 0
  | x :: l => (if later l x.key = false ∧ x.busy = true then 1 else 0) + cntL l

theorem later_append (l m : List Ev) (k : List UInt8) : later (l ++ m) k = (later l k || later m k) := by simp [later]
theorem later_one (x : Ev) (k : List UInt8) : later [x] k = (x.key == k) := by simp [later]

theorem lastB_snoc : ∀ (l : List Ev) (x : Ev) (k : List UInt8), lastB (l ++ [x]) k = if x.key == k then x.busy else lastB l k
  | [], x, k => by
    show (x.key == k && x.busy) = if (x.key == k) = true then x.busy else false
    cases (x.key == k) <;> rfl
  | y :: l, x, k => by
    rw [List.cons_append, lastB, later_append, later_one, lastB_snoc l x k, lastB]
    cases h1 : later l k <;> cases h2 : (x.key == k) <;> simp

/-- Without the steps of one name. -/
def cntX : List Ev → List UInt8 → Nat
  | [], _ => 0
  | x :: l, k => (if later l x.key = false ∧ x.busy = true ∧ (x.key == k) = false then 1 else 0) + cntX l k

theorem cnt_snocX : ∀ (l : List Ev) (x : Ev), cntL (l ++ [x]) = cntX l x.key + (if x.busy then 1 else 0)
  | [], x => by simp [cntL, cntX, later]
  | y :: l, x => by
    rw [List.cons_append, cntL, cnt_snocX l x, cntX, later_append, later_one]
    have e : (x.key == y.key) = (y.key == x.key) := by rw [Bool.eq_iff_iff, beq_iff_eq, beq_iff_eq]; exact eq_comm
    rw [e]
    cases h1 : later l y.key <;> cases h2 : (y.key == x.key) <;> cases h3 : y.busy <;> simp <;> omega

theorem cntX_zero_of_not : ∀ (l : List Ev) (k : List UInt8), later l k = false → lastB l k = false
  | [], _, _ => rfl
  | y :: l, k, h => by
    simp [later] at h
    have h2 : later l k = false := by simp [later]; exact h.2
    rw [lastB, h2]
    simp [h.1]

theorem cntX_lastB : ∀ (l : List Ev) (k : List UInt8), cntX l k + (if lastB l k then 1 else 0) = cntL l
  | [], k => rfl
  | y :: l, k => by
    have ih := cntX_lastB l k
    rw [cntX, cntL, lastB]
    by_cases hk : y.key = k
    · subst hk
      cases h1 : later l y.key
      · have h0 := cntX_zero_of_not l y.key h1
        rw [h0] at ih
        cases h3 : y.busy <;> simp at ih ⊢ <;> omega
      · simp
        exact ih
    · have hk' : (y.key == k) = false := by simp [hk]
      rw [hk']
      cases h1 : later l k
      · have h0 := cntX_zero_of_not l k h1
        rw [h0] at ih
        cases h2 : later l y.key <;> cases h3 : y.busy <;> simp at ih ⊢ <;> omega
      · cases h2 : later l y.key <;> cases h3 : y.busy <;> simp <;> omega

theorem cnt_snoc (l : List Ev) (x : Ev) : cntL (l ++ [x]) + (if lastB l x.key then 1 else 0) = cntL l + (if x.busy then 1 else 0) := by
  have h1 := cnt_snocX l x
  have h2 := cntX_lastB l x.key
  omega

/-- What the set holds behind the steps xs. -/
structure Holds (D : DataW Unit) (xs : List Ev) : Prop where
  tidy : Tidy D
  has : ∀ k : List UInt8, Maps.has D (.string k) = lastB xs k
  size : Maps.size D = cntL xs

theorem holds_nil : Holds (.map []) [] := ⟨tidy_empty, fun _ => rfl, rfl⟩

/-- One step: put, and dropped at once if idle. -/
theorem Holds.step {D : DataW Unit} {xs : List Ev} (h : Holds D xs) (x : Ev) :
    Holds (dropD (D.put (.string x.key) (.agg [])) (.string x.key) x.busy) (xs ++ [x]) ∧ Maps.has (dropD (D.put (.string x.key) (.agg [])) (.string x.key) x.busy) (.string x.key) = x.busy := by
  have hp : Tidy (D.put (.string x.key) (.agg [])) := h.tidy.put (by trivial) _
  have hh : Maps.has (D.put (.string x.key) (.agg [])) (.string x.key) = true := has_put_same h.tidy.isMap (by trivial) _
  obtain ⟨f1, f2, _⟩ := drop_facts hp (.string x.key) x.busy hh
  refine ⟨⟨tidy_dropD hp _ _, fun k => ?_, ?_⟩, f1⟩
  · rw [lastB_snoc]
    by_cases hk : x.key = k
    · subst hk; simp [f1]
    · have hk' : (x.key == k) = false := by simp [hk]
      have hl : (Lit.string k) ≠ (Lit.string x.key) := fun e => hk (by injection e with e; exact e.symm)
      rw [hk', has_dropD_other hl, has_put_other hl, h.has]
      rfl
  · have c := cnt_snoc xs x
    have s := size_put (k := .string x.key) h.tidy (.agg [])
    rw [h.has, h.size] at s
    cases hb : x.busy <;> cases hl : lastB xs x.key <;> rw [hb] at f2 c <;> rw [hl] at s c <;> simp at f2 s c <;> omega

/-- The map of last places. -/
structure Lasts (M : DataW Unit) (xs : List Ev) : Prop where
  isMap : IsMap M
  at_ : ∀ k : List UInt8, later xs k = true → ∃ j, ∃ h : j < xs.length, M.atKey (.string k) (.lit (.int .i64 0)) = .lit (.int .i64 j) ∧ xs[j].key = k ∧ later (xs.drop (j + 1)) k = false

theorem lasts_nil : Lasts (.map []) [] := ⟨isMap_empty, fun k h => by simp [later] at h⟩

theorem Lasts.step {M : DataW Unit} {xs : List Ev} (h : Lasts M xs) (x : Ev) : Lasts (M.put (.string x.key) (.lit (.int .i64 (xs.length : Int)))) (xs ++ [x]) := by
  refine ⟨h.isMap.put _ _, fun k hk => ?_⟩
  by_cases e : x.key = k
  · subst e
    refine ⟨xs.length, by simp, atKey_put_same h.isMap (by trivial) _ _, by simp, ?_⟩
    simp [later]
  · have hk2 : later xs k = true := by
      rw [later_append, later_one] at hk
      simpa [e] using hk
    obtain ⟨j, hj, h1, h2, h3⟩ := h.at_ k hk2
    have hl : (Lit.string k) ≠ (Lit.string x.key) := fun e' => e (by injection e' with e'; exact e'.symm)
    refine ⟨j, by simp; omega, by rw [atKey_put_other hl]; exact h1, by rw [List.getElem_append_left hj]; exact h2, ?_⟩
    rw [List.drop_append_of_le_length (by omega), later_append, h3, later_one]
    simp [e]

/-- The last step of a name says whether it is held. -/
theorem lastB_at : ∀ (xs : List Ev) (k : List UInt8) (j : Nat) (h : j < xs.length), xs[j].key = k → later (xs.drop (j + 1)) k = false → lastB xs k = xs[j].busy
  | x :: l, k, 0, _, h1, h2 => by
    simp at h1 h2
    rw [lastB, h2]
    simp [h1]
  | x :: l, k, j + 1, h, h1, h2 => by
    have hl : later l k = true := by
      simp only [later, List.any_eq_true]
      exact ⟨l[j]'(by simpa using h), List.getElem_mem _, by simpa using h1⟩
    rw [lastB, hl]
    simp only [if_true, List.getElem_cons_succ]
    exact lastB_at l k j (by simpa using h) (by simpa using h1) (by simpa using h2)

/-- The count, step by step, from the front. -/
theorem cnt_drop (xs : List Ev) (i : Nat) (h : i < xs.length) : cntL (xs.drop i) = (if later (xs.drop (i + 1)) xs[i].key = false ∧ xs[i].busy = true then 1 else 0) + cntL (xs.drop (i + 1)) := by
  rw [List.drop_eq_getElem_cons h, cntL]

/-- The last place is the place itself just if no later step bears the name. -/
theorem last_is (xs : List Ev) (i j : Nat) (hi : i < xs.length) (hj : j < xs.length) (h1 : xs[j].key = xs[i].key) (h2 : later (xs.drop (j + 1)) xs[i].key = false) : j = i ↔ later (xs.drop (i + 1)) xs[i].key = false := by
  constructor
  · intro e; subst e; exact h2
  · intro h3
    rcases Nat.lt_trichotomy j i with hlt | he | hgt
    · exfalso
      have : later (xs.drop (j + 1)) xs[i].key = true := by
        simp only [later, List.any_eq_true]
        refine ⟨xs[i], ?_, by simp⟩
        rw [List.mem_iff_getElem]
        exact ⟨i - (j + 1), by simp; omega, by simp [show j + 1 + (i - (j + 1)) = i by omega]⟩
      rw [this] at h2; cases h2
    · exact he
    · exfalso
      have : later (xs.drop (i + 1)) xs[i].key = true := by
        simp only [later, List.any_eq_true]
        refine ⟨xs[j], ?_, by simp [h1]⟩
        rw [List.mem_iff_getElem]
        exact ⟨j - (i + 1), by simp; omega, by simp [show i + 1 + (j - (i + 1)) = j by omega]⟩
      rw [this] at h3; cases h3

theorem later_self (xs : List Ev) (i : Nat) (h : i < xs.length) : later xs xs[i].key = true := by
  simp only [later, List.any_eq_true]
  exact ⟨xs[i], List.getElem_mem _, by simp⟩

end Go.Proofs.Qxb6618922a.Script
