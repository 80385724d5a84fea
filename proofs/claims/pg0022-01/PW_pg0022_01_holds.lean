import PyProof.Rows.All
import Wide.All
import OpenK.AllK
import Wide.FinOn
import Lean
import PySem.Challenge.RW_pg0022_01
set_option Elab.async false
section
open PySem PySem.W PyProof.Rows
namespace Mine
set_option maxRecDepth 100000
set_option maxHeartbeats 8000000
open_top hd for PySem.Challenge.rw_pg0022_01
end Mine
end
section
open PySem PySem.Sre
set_option linter.unusedSimpArgs false
namespace Mine
namespace Rx
def c1 : Array Nat := #[14, 4, 0, 1, 1, 6, 1, 16, 46, 1]
def c2 : Array Nat := #[14, 9, 4, 1, 2, 16, 10, 16, 13, 0, 7, 7, 16, 13, 16, 10, 15, 18, 5, 16, 10, 15, 13, 11, 16, 13, 5, 5, 0, 16, 10, 1, 15, 2, 0, 1]

def Ends (n : Nat) (m : M) (P : M → Prop) : Prop := ∃ k, k ≤ n ∧ (M.runFor k m).outcome.isSome = true ∧ P (M.runFor k m)

theorem runFor_succ {n : Nat} {m : M} (h : m.outcome = none) : M.runFor (n + 1) m = M.runFor n m.step := by
  rw [M.runFor]; simp [h]
theorem runFor_done {n : Nat} {m : M} (h : m.outcome.isSome = true) : M.runFor n m = m := by
  cases n with
  | zero => rfl
  | succ n => rw [M.runFor]; simp [h]
theorem Ends.step {n : Nat} {m : M} {P : M → Prop} (h0 : m.outcome = none) (h : Ends n m.step P) : Ends (n + 1) m P := by
  obtain ⟨k, hk, h1, h2⟩ := h
  refine ⟨k + 1, by omega, ?_, ?_⟩ <;> rw [runFor_succ h0] <;> assumption
theorem Ends.done {n : Nat} {m : M} {P : M → Prop} (h0 : m.outcome.isSome = true) (h : P m) : Ends n m P := ⟨0, by omega, h0, h⟩
theorem Ends.mono {n n' : Nat} {m : M} {P P' : M → Prop} (h : Ends n m P) (hn : n ≤ n') (hP : ∀ m, P m → P' m) : Ends n' m P' := by
  obtain ⟨k, hk, h1, h2⟩ := h
  exact ⟨k, by omega, h1, hP _ h2⟩
theorem runFor_later {j k : Nat} {m : M} (h : (M.runFor k m).outcome.isSome = true) (hj : k ≤ j) : M.runFor j m = M.runFor k m := by
  induction k generalizing j m with
  | zero => exact runFor_done h
  | succ k ih =>
    obtain ⟨j, rfl⟩ : ∃ i, j = i + 1 := ⟨j - 1, by omega⟩
    by_cases hd : m.outcome.isSome = true
    · rw [runFor_done hd, runFor_done hd]
    · have h0 : m.outcome = none := by simpa using hd
      rw [runFor_succ h0] at h ⊢
      rw [runFor_succ h0]
      exact ih h (by omega)
theorem runFor_add {j k : Nat} {m : M} : M.runFor (j + k) m = M.runFor k (M.runFor j m) := by
  induction j generalizing m with
  | zero => simp [M.runFor]
  | succ j ih =>
    by_cases hd : m.outcome.isSome = true
    · rw [runFor_done hd, runFor_done hd, runFor_done hd]
    · have h0 : m.outcome = none := by simpa using hd
      rw [show j + 1 + k = (j + k) + 1 by omega, runFor_succ h0, runFor_succ h0]
      exact ih

@[reducible] def A1 (T : Array Nat) (lim q : Nat) (sn : Seen) (first : Bool) : M :=
  { code := c1, text := T, lim := lim, start := q, lastStart := lim, wholeText := false, mustAdvance := false, pc := 5, pos := q, handed := q, outermost := first, marks := #[], lastmark := -1, lastindex := -1, loops := #[], inner := none,
    frames := [{ wait := .nextStart, pc := 5, pos := q, outermost := first }], weight := 1, answer := none, seen := sn, outcome := none }

def bol (T : Array Nat) (q : Nat) : Bool := q == 0 || T.getD (q - 1) 0 == 10
def hit1 (T : Array Nat) (q : Nat) : Bool := bol T q && T.getD q 0 == 46

theorem a1_hit {T lim q sn first} (h : hit1 T q = true) (hq : q < lim) : Ends 5 (A1 T lim q sn first) (fun m => m.outcome = some .matched ∧ m.start = q ∧ m.handed = q + 1) := by
  unfold hit1 bol at h
  simp at h
  obtain ⟨h1, h2⟩ := h
  refine Ends.step rfl ?_
  simp [M.step, M.exec, M.word, c1, ops, M.isAt, M.say, h1]
  refine Ends.step rfl ?_
  simp [M.step, M.exec, M.word, c1, ops, M.isAt, M.say, h1, accepts, h2, itemWidth, Nat.not_le.mpr hq]
  refine Ends.step rfl ?_
  simp [M.step, M.exec, M.word, c1, ops, M.isAt, M.say, h1, accepts, h2, itemWidth, Nat.not_le.mpr hq]
  refine Ends.step rfl ?_
  simp [M.step, M.resume, M.say]
  refine Ends.step rfl ?_
  simp [M.step]
  exact Ends.done rfl (by simp)

theorem a1_miss {T lim q sn first} (h : hit1 T q = false) (hq : q < lim) {P : M → Prop} {n : Nat} (hn : ∀ sn', Ends n (A1 T lim (q + 1) sn' false) P) : Ends (n + 3) (A1 T lim q sn first) P := by
  unfold hit1 at h
  by_cases hb : bol T q = true
  · rw [hb] at h
    unfold bol at hb
    simp at h hb
    have h3 : (T[q]?.getD 0 == 46) = false := by simpa using h
    refine Ends.step rfl ?_
    simp [M.step, M.exec, M.word, c1, ops, M.isAt, M.say, hb]
    refine Ends.step rfl ?_
    simp [M.step, M.exec, M.word, c1, ops, M.isAt, M.say, accepts, h3, itemWidth, Nat.not_le.mpr hq]
    refine Ends.step rfl ?_
    simp [M.step, M.resume, M.say, hq, M.attemptFrom, M.hasFirstSet, ops, M.attemptAt, M.attempt]
    exact hn _
  · have hb' : bol T q = false := by simpa using hb
    unfold bol at hb'
    simp at hb'
    refine Ends.mono (n := n + 2) ?_ (by omega) (fun _ x => x)
    refine Ends.step rfl ?_
    simp [M.step, M.exec, M.word, c1, ops, M.isAt, M.say, hb']
    refine Ends.step rfl ?_
    simp [M.step, M.resume, M.say, hq, M.attemptFrom, M.hasFirstSet, ops, M.attemptAt, M.attempt]
    exact hn _

theorem a1_end {T lim sn first} : Ends 4 (A1 T lim lim sn first) (fun m => m.outcome = some .failed) := by
  by_cases hb : bol T lim = true
  · unfold bol at hb
    simp at hb
    refine Ends.step rfl ?_
    simp [M.step, M.exec, M.word, c1, ops, M.isAt, M.say, hb]
    refine Ends.step rfl ?_
    simp [M.step, M.exec, M.word, c1, ops, M.isAt, M.say, accepts, itemWidth]
    refine Ends.step rfl ?_
    simp [M.step, M.resume, M.say, M.attemptFrom, M.hasFirstSet, ops, M.attemptAt, M.attempt]
    refine Ends.step rfl ?_
    simp [M.step]
    exact Ends.done rfl (by simp)
  · have hb' : bol T lim = false := by simpa using hb
    unfold bol at hb'
    simp at hb'
    refine Ends.mono (n := 3) ?_ (by omega) (fun _ x => x)
    refine Ends.step rfl ?_
    simp [M.step, M.exec, M.word, c1, ops, M.isAt, M.say, hb']
    refine Ends.step rfl ?_
    simp [M.step, M.resume, M.say, M.attemptFrom, M.hasFirstSet, ops, M.attemptAt, M.attempt]
    refine Ends.step rfl ?_
    simp [M.step]
    exact Ends.done rfl (by simp)

/-- what a search says -/
def Says (r : Option (Nat × Nat)) (m : M) : Prop := match r with
  | none => m.outcome = some .failed
  | some (q, e) => m.outcome = some .matched ∧ m.start = q ∧ m.handed = e

def find1 (T : Array Nat) : Nat → Nat → Option (Nat × Nat)
  | 0, _ => none
  | d + 1, q => if hit1 T q then some (q, q + 1) else find1 T d (q + 1)

theorem a1_run {T : Array Nat} {lim : Nat} : ∀ (d q : Nat), q + d = lim → ∀ (sn : Seen) (first : Bool), Ends (3 * d + 5) (A1 T lim q sn first) (Says (find1 T d q))
  | 0, q, h, sn, first => by
    obtain rfl : q = lim := by omega
    exact a1_end.mono (by omega) (fun m h => h)
  | d + 1, q, h, sn, first => by
    unfold find1
    by_cases hh : hit1 T q = true
    · rw [if_pos hh]
      exact (a1_hit hh (by omega)).mono (by omega) (fun m h => h)
    · rw [if_neg hh]
      exact (a1_miss (by simpa using hh) (by omega) (fun sn' => a1_run d (q + 1) (by omega) sn' false)).mono (by omega) (fun m h => h)

theorem search1 {T : Array Nat} {q d : Nat} (h : q + d = T.size) : Ends (3 * d + 6) (forSearch c1 T 0 q T.size false) (Says (find1 T d q)) := by
  by_cases h0 : d = 0
  · subst h0
    have e : forSearch c1 T 0 q T.size false = { (forSearch c1 T 0 q T.size false) with answer := some false, frames := [], outcome := none } := by
      unfold forSearch
      simp only [header, c1, ops]
      simp
      rw [if_pos (.inr (by omega))]
      rfl
    rw [e]
    refine Ends.step rfl ?_
    simp [M.step]
    exact Ends.done rfl (by simp [find1, Says])
  · have e : ∃ sn, forSearch c1 T 0 q T.size false = A1 T T.size q sn true := by
      refine ⟨({} : Seen).add 14, ?_⟩
      unfold forSearch
      simp only [header, c1, ops]
      simp
      rw [if_neg (by omega)]
      rfl
    obtain ⟨sn, e⟩ := e
    rw [e]
    exact (a1_run d q h sn true).mono (by omega) (fun m h => h)

@[reducible] def A2 (T : Array Nat) (lim q : Nat) (sn : Seen) (first : Bool) : M :=
  { code := c2, text := T, lim := lim, start := q, lastStart := lim, wholeText := false, mustAdvance := false, pc := 10, pos := q, handed := q, outermost := first, marks := #[], lastmark := -1, lastindex := -1, loops := #[], inner := none,
    frames := [{ wait := .nextStart, pc := 10, pos := q, outermost := first }], weight := 1, answer := none, seen := sn, outcome := none }

theorem a2_crlf {T lim q sn first} (h1 : T.getD q 0 = 13) (h2 : T.getD (q + 1) 0 = 10) (hq : q + 1 < lim) : Ends 8 (A2 T lim q sn first) (fun m => m.outcome = some .matched ∧ m.start = q ∧ m.handed = q + 2) := by
  simp at h1 h2
  have hq0 : ¬ lim ≤ q := by omega
  have hq1 : ¬ lim ≤ q + 1 := by omega
  refine Ends.step rfl ?_
  simp [M.step, M.exec, M.word, c2, ops, M.say, M.alternative, M.keep, M.attempt, M.frame]
  refine Ends.step rfl ?_
  simp [M.step, M.exec, M.word, ops, M.say, accepts, itemWidth, h1, h2, hq0, hq1]
  refine Ends.step rfl ?_
  simp [M.step, M.exec, M.word, ops, M.say, accepts, itemWidth, h1, h2, hq0, hq1]
  refine Ends.step rfl ?_
  simp [M.step, M.exec, M.word, ops, M.say]
  refine Ends.step rfl ?_
  simp [M.step, M.exec, M.word, ops, M.say]
  refine Ends.step rfl ?_
  simp [M.step, M.resume, M.say]
  refine Ends.step rfl ?_
  simp [M.step, M.resume, M.say]
  refine Ends.step rfl ?_
  simp [M.step]
  exact Ends.done rfl (by simp)

theorem a2_lf {T lim q sn first} (h1 : T.getD q 0 = 10) (hq : q < lim) : Ends 10 (A2 T lim q sn first) (fun m => m.outcome = some .matched ∧ m.start = q ∧ m.handed = q + 1) := by
  simp at h1
  have hq0 : ¬ lim ≤ q := by omega
  refine Ends.step rfl ?_
  simp [M.step, M.exec, M.word, c2, ops, M.say, M.alternative, M.keep, M.attempt, M.frame]
  refine Ends.step rfl ?_
  simp [M.step, M.exec, M.word, ops, M.say, accepts, itemWidth, h1, hq0]
  refine Ends.step rfl ?_
  simp [M.step, M.resume, M.say, M.alternative, M.putBack, M.attempt, M.frame]
  refine Ends.step rfl ?_
  simp [M.step, M.exec, M.word, ops, M.say, accepts, itemWidth, h1, hq0]
  refine Ends.step rfl ?_
  simp [M.step, M.exec, M.word, ops, M.say]
  refine Ends.step rfl ?_
  simp [M.step, M.exec, M.word, ops, M.say]
  refine Ends.step rfl ?_
  simp [M.step, M.resume, M.say]
  refine Ends.step rfl ?_
  simp [M.step, M.resume, M.say]
  refine Ends.step rfl ?_
  simp [M.step]
  exact Ends.done rfl (by simp)

theorem a2_cr {T lim q sn first} (h1 : T.getD q 0 = 13) (h2 : q + 1 < lim → T.getD (q + 1) 0 ≠ 10) (hq : q < lim) : Ends 16 (A2 T lim q sn first) (fun m => m.outcome = some .matched ∧ m.start = q ∧ m.handed = q + 1) := by
  simp at h1 h2
  have hq0 : ¬ lim ≤ q := by omega
  refine Ends.step rfl ?_
  simp [M.step, M.exec, M.word, c2, ops, M.say, M.alternative, M.keep, M.attempt, M.frame]
  refine Ends.step rfl ?_
  simp [M.step, M.exec, M.word, ops, M.say, accepts, itemWidth, h1, hq0]
  by_cases hq1 : lim ≤ q + 1
  · refine Ends.step rfl ?_
    simp [M.step, M.exec, M.word, ops, M.say, accepts, itemWidth, h1, hq0, hq1]
    refine Ends.step rfl ?_
    simp [M.step, M.resume, M.say, M.alternative, M.putBack, M.attempt, M.frame]
    refine Ends.step rfl ?_
    simp [M.step, M.exec, M.word, ops, M.say, accepts, itemWidth, h1, hq0]
    refine Ends.step rfl ?_
    simp [M.step, M.resume, M.say, M.alternative, M.putBack, M.attempt, M.frame]
    refine Ends.step rfl ?_
    simp [M.step, M.exec, M.word, ops, M.say, accepts, itemWidth, h1, hq0]
    refine Ends.step rfl ?_
    simp [M.step, M.exec, M.word, ops, M.say, M.attempt, M.frame, M.keep]
    refine Ends.step rfl ?_
    simp [M.step, M.exec, M.word, ops, M.say, accepts, itemWidth, h1, hq0, hq1]
    refine Ends.step rfl ?_
    simp [M.step, M.resume, M.word, M.say, M.putBack]
    refine Ends.step rfl ?_
    simp [M.step, M.exec, M.word, ops, M.say]
    refine Ends.step rfl ?_
    simp [M.step, M.exec, M.word, ops, M.say]
    refine Ends.step rfl ?_
    simp [M.step, M.resume, M.say]
    refine Ends.step rfl ?_
    simp [M.step, M.resume, M.say]
    refine Ends.step rfl ?_
    simp [M.step]
    exact Ends.done rfl (by simp)
  · have h3 : (T[q + 1]?.getD 0 == 10) = false := by simpa using h2 (by omega)
    refine Ends.step rfl ?_
    simp [M.step, M.exec, M.word, ops, M.say, accepts, itemWidth, h1, h3, hq0, hq1]
    refine Ends.step rfl ?_
    simp [M.step, M.resume, M.say, M.alternative, M.putBack, M.attempt, M.frame]
    refine Ends.step rfl ?_
    simp [M.step, M.exec, M.word, ops, M.say, accepts, itemWidth, h1, hq0]
    refine Ends.step rfl ?_
    simp [M.step, M.resume, M.say, M.alternative, M.putBack, M.attempt, M.frame]
    refine Ends.step rfl ?_
    simp [M.step, M.exec, M.word, ops, M.say, accepts, itemWidth, h1, hq0]
    refine Ends.step rfl ?_
    simp [M.step, M.exec, M.word, ops, M.say, M.attempt, M.frame, M.keep]
    refine Ends.step rfl ?_
    simp [M.step, M.exec, M.word, ops, M.say, accepts, itemWidth, h1, h3, hq0, hq1]
    refine Ends.step rfl ?_
    simp [M.step, M.resume, M.word, M.say, M.putBack]
    refine Ends.step rfl ?_
    simp [M.step, M.exec, M.word, ops, M.say]
    refine Ends.step rfl ?_
    simp [M.step, M.exec, M.word, ops, M.say]
    refine Ends.step rfl ?_
    simp [M.step, M.resume, M.say]
    refine Ends.step rfl ?_
    simp [M.step, M.resume, M.say]
    refine Ends.step rfl ?_
    simp [M.step]
    exact Ends.done rfl (by simp)

def nl (c : Nat) : Bool := c == 10 || c == 13

def find2 (T : Array Nat) : Nat → Nat → Option (Nat × Nat)
  | 0, _ => none
  | d + 1, q => if nl (T.getD q 0) then some (q, if T.getD q 0 == 13 && d != 0 && T.getD (q + 1) 0 == 10 then q + 2 else q + 1) else find2 T d (q + 1)

theorem inSet2 (c : Nat) (sn : Seen) : ∃ sn', inSet c2 c 36 5 true sn = .ok (nl c, sn') := by
  by_cases h : c = 10
  · subst h
    exact ⟨_, by simp [inSet, c2, ops, nl]; rfl⟩
  · by_cases h2 : c = 13
    · subst h2
      exact ⟨_, by simp [inSet, c2, ops, nl]; rfl⟩
    · exact ⟨_, by simp [inSet, c2, ops, nl, h, h2]; rfl⟩

theorem admitted2 {T : Array Nat} {m : M} (hc : m.code = c2) (ht : m.text = T) : ∀ (d q : Nat) (sn : Seen), q + d = m.lim → ∃ sn', M.admitted m (d + 1) q sn = .ok ((find2 T d q).map (·.1), sn')
  | 0, q, sn, h => ⟨sn, by rw [M.admitted]; simp [find2, show m.lim ≤ q by omega]⟩
  | d + 1, q, sn, h => by
    obtain ⟨sn', e⟩ := inSet2 (T.getD q 0) sn
    have hs : c2.size = 36 := rfl
    rw [M.admitted, if_neg (by omega), hc, ht, hs, e]
    unfold find2
    cases hn : nl (T.getD q 0) with
    | true => exact ⟨sn', by simp⟩
    | false =>
      obtain ⟨sn'', e'⟩ := admitted2 hc ht d (q + 1) sn' (by omega)
      exact ⟨sn'', by simpa using e'⟩

theorem find2_spec {T : Array Nat} : ∀ (d q : Nat) {r e : Nat}, find2 T d q = some (r, e) → q ≤ r ∧ r < q + d ∧ nl (T.getD r 0) = true ∧ e = (if T.getD r 0 == 13 && r + 1 != q + d && T.getD (r + 1) 0 == 10 then r + 2 else r + 1)
  | 0, q, r, e, h => by simp [find2] at h
  | d + 1, q, r, e, h => by
    unfold find2 at h
    by_cases hn : nl (T.getD q 0) = true
    · rw [if_pos hn] at h
      obtain ⟨rfl, rfl⟩ := by simpa only [Option.some.injEq, Prod.mk.injEq] using h
      have : (d != 0) = (q + 1 != q + (d + 1)) := by
        rw [Bool.eq_iff_iff]
        simp only [bne_iff_ne, ne_eq]
        omega
      refine ⟨by omega, by omega, hn, by rw [this]⟩
    · rw [if_neg hn] at h
      have := find2_spec d (q + 1) h
      rw [show q + 1 + d = q + (d + 1) by omega] at this
      exact ⟨by omega, this.2⟩

theorem search2 {T : Array Nat} {q d : Nat} (h : q + d = T.size) : Ends 17 (forSearch c2 T 0 q T.size false) (Says (find2 T d q)) := by
  by_cases h0 : d = 0
  · subst h0
    have e : forSearch c2 T 0 q T.size false = { (forSearch c2 T 0 q T.size false) with answer := some false, frames := [], outcome := none } := by
      unfold forSearch
      simp only [header, c2, ops]
      simp
      rw [if_pos (.inr (by omega))]
      rfl
    rw [e]
    refine Ends.step rfl ?_
    exact Ends.done rfl (by simp [find2, Says, M.step])
  · have key : ∃ m : M, m.code = c2 ∧ m.text = T ∧ m.lim = T.size ∧ m.frames = [] ∧ m.outcome = none ∧ forSearch c2 T 0 q T.size false = m.attemptFrom q true ∧ m.hasFirstSet = true ∧
        (∀ r sn, { m with mustAdvance := false, seen := sn }.attemptAt r true = A2 T T.size r sn true) := by
      refine ⟨{ (A2 T T.size q (({} : Seen).add 14) true) with frames := [], weight := 0 }, rfl, rfl, rfl, rfl, rfl, ?_, rfl, ?_⟩
      · unfold forSearch
        simp only [header, c2, ops]
        simp
        rw [if_neg (by omega)]
        rfl
      · intro r sn
        rfl
    obtain ⟨m, hc, ht, hl, hf, ho, e, hs, hA⟩ := key
    rw [e]
    unfold M.attemptFrom
    rw [hs]
    obtain ⟨sn', ea⟩ := admitted2 (T := T) hc ht d q m.seen (by omega)
    rw [show m.lim + 1 - q = d + 1 by omega, ea]
    cases hf2 : find2 T d q with
    | none =>
      simp only [Bool.not_true, Bool.false_eq_true, if_false, Option.map_none]
      refine Ends.step (by simp [M.say, ho]) ?_
      simp [M.step, M.say, ho, hf]
      exact Ends.done rfl (by simp [Says])
    | some p =>
      obtain ⟨r, e2⟩ := p
      simp only [Bool.not_true, Bool.false_eq_true, if_false, Option.map_some, hA]
      obtain ⟨h1, h2, h3, h4⟩ := find2_spec d q hf2
      rw [show q + d = T.size from h] at h2 h4
      unfold nl at h3
      by_cases h10 : T.getD r 0 = 10
      · have he : e2 = r + 1 := by rw [h4, h10]; simp
        subst he
        exact (a2_lf h10 h2).mono (by omega) (fun m x => x)
      · have h13 : T.getD r 0 = 13 := by
          rcases Bool.or_eq_true_iff.mp h3 with x | x
          · exact absurd (by simpa using x) h10
          · simpa using x
        rw [h13] at h4
        by_cases hh : r + 1 < T.size ∧ T.getD (r + 1) 0 = 10
        · have he : e2 = r + 2 := by
            rw [h4, hh.2, if_pos]
            simp; omega
          subst he
          exact (a2_crlf h13 hh.2 hh.1).mono (by omega) (fun m x => x)
        · have he : e2 = r + 1 := by
            rw [h4, if_neg]
            simp
            intro hne
            by_cases hl : r + 1 < T.size
            · intro h9
              exact hh ⟨hl, by simpa using h9⟩
            · omega
          subst he
          exact (a2_cr h13 (fun hl h9 => hh ⟨hl, h9⟩) h2).mono (by omega) (fun m x => x)
end Rx
end Mine
end
section
open PySem PySem.W PyProof.Rows
namespace Mine
theorem plainAttrs_rep : PlainAttrs "re.Pattern" :=
  ⟨⟨"object.__getattribute__", by rw [typeLookup_type, builtinLookup_eq_fast]; kernel_rfl, by decide +kernel⟩, by rw [typeLookup_type, builtinLookup_eq_fast]; kernel_rfl⟩
theorem slot_sub : Slot "re.Pattern" "sub" "re.Pattern.sub" :=
  .of (owner := "re.Pattern") (n := "sub") (by rw [typeLookup_type, builtinLookup_eq_fast]; kernel_rfl) (by decide +kernel) (by decide +kernel) (by decide +kernel)
    (by first | exact .inl (by decide +kernel) | exact .inr (by decide +kernel)) (by rw [isSubtype_type]; kernel_rfl)
theorem type_sub : typeOf (.builtin "re.Pattern.sub") = pure (.type "method_descriptor") := by show builtinType _ = _; rw [builtinType_eq_fast]; kernel_rfl
theorem entry_sub : entryFor table "re.Pattern.sub" = some Builtin.«re.Pattern.sub» := entryFor_of_tree (by kernel_rfl)
theorem entry_subloop : entryFor table "re.Pattern.sub.loop" = some Builtin.«re.Pattern.sub.loop» := entryFor_of_tree (by kernel_rfl)
theorem owner_rep : Manifest.owners.lookup (String.ofList "re.Pattern".toList.reverse.reverse) = some Manifest.sig_re_Pattern := by kernel_rfl
theorem args_sub_3 (a b c : Value) : argsOk "re.Pattern.sub" ⟨[a, b, c], []⟩ := by
  unfold argsOk; rw [signature?_of (id := "re.Pattern.sub") (n := ['b', 'u', 's']) (o := "re.Pattern".toList.reverse) (by kernel_rfl) owner_rep]; kernel_rfl
end Mine
end
section
open PySem PySem.W PyProof.Rows PySem.Sre PySem.Builtin PySem.Builtin.Re
set_option linter.unusedSimpArgs false
set_option linter.unusedVariables false
namespace Mine
namespace Rx
section
variable {Mo : Model} {A : Around} {E : Value → Shared → Prop} {s : Shared}

theorem drive {P : Sre.M → Prop} : ∀ (turns n : Nat) (m : Sre.M) {Q : Sre.M → Shared → Prop}, Ends n m P → n ≤ 4 * turns → 0 < turns →
    (∀ m', m'.outcome.isSome = true → P m' → Q m' s) → wpAny Mo A (reDrive turns m) Q E s
  | 0, _, _, _, _, _, h0, _ => absurd h0 (Nat.lt_irrefl 0)
  | turns + 1, n, m, Q, h, hn, _, hQ => by
    obtain ⟨k, hk, h1, h2⟩ := h
    unfold reDrive
    show wpAny Mo A (if (m.runFor 4).outcome.isSome = true then pure (m.runFor 4) else (do rule "sre.turn"; reDrive turns (m.runFor 4))) Q E s
    by_cases hd : (m.runFor 4).outcome.isSome = true
    · rw [if_pos hd]
      have e : Sre.M.runFor 4 m = Sre.M.runFor k m := by
        rcases Nat.le_total k 4 with hle | hle
        · exact runFor_later h1 hle
        · exact (runFor_later hd hle).symm
      rw [e]
      exact wpAny_pure (hQ _ h1 h2)
    · rw [if_neg hd]
      have hk4 : 4 < k := by
        rcases Nat.lt_or_ge 4 k with hlt | hge
        · exact hlt
        · exact absurd (by rw [runFor_later h1 hge]; exact h1) hd
      have ek : Sre.M.runFor k m = Sre.M.runFor (k - 4) (Sre.M.runFor 4 m) := by rw [← runFor_add]; congr 1; omega
      refine wpAny_bind (wpAny_rule (drive turns (k - 4) _ ⟨k - 4, Nat.le_refl _, ?_, ?_⟩ (by omega) (by omega) hQ))
      · rw [← ek]; exact h1
      · rw [← ek]; exact h2

theorem rules (m : Sre.M) : ∀ (l : List Nat) {Q : PUnit → Shared → Prop}, Q ⟨⟩ s →
    wpAny Mo A (forIn l PUnit.unit (fun i r => do
      if m.seen.has i = true then do
          rule (Sre.names.getD i "")
          pure (ForInStep.yield PUnit.unit)
        else pure (ForInStep.yield PUnit.unit))) Q E s
  | [], Q, h => wpAny_pure h
  | i :: l, Q, h => by
    rw [List.forIn_cons]
    refine wpAny_bind ?_
    by_cases hc : m.seen.has i = true
    · rw [if_pos hc]
      exact wpAny_bind (wpAny_rule (wpAny_pure (rules m l h)))
    · rw [if_neg hc]
      exact wpAny_pure (rules m l h)

theorem runToEnd {r : Option (Nat × Nat)} {n : Nat} {m : Sre.M} {Q : Option Sre.M → Shared → Prop} (h : Ends n m (Says r)) (hn : n ≤ 2 ^ 65)
    (hQ : ∀ o : Option Sre.M, (match r with | none => o = none | some (q, e) => ∃ m', o = some m' ∧ m'.start = q ∧ m'.handed = e) → Q o s) : wpAny Mo A (reRunToEnd m) Q E s := by
  unfold reRunToEnd
  refine wpAny_bind (drive (2 ^ 64) n m h (by omega) (by omega) (fun m' h1 h2 => ?_))
  refine wpAny_bind (rules m' _ ?_)
  unfold Says at h2
  cases r with
  | none =>
    simp only at h2
    rw [h2]
    exact wpAny_pure (hQ none rfl)
  | some p =>
    obtain ⟨q, e⟩ := p
    simp only at h2
    rw [h2.1]
    exact wpAny_pure (hQ (some m') ⟨m', rfl, h2.2⟩)

structure IsPat (h : Heap) (P : Addr) (code : Array Nat) : Prop where
  has : ∃ (o oc : Obj) (C : Addr) (pv fl : Value) (items : Array Value) (n : Nat), h.get? P = some o ∧ o.cls = .type "re.Pattern" ∧ o.dict = none ∧
    o.data = .fields #[pv, fl, .int 0 0, .none, .none, .ref C, .int 0 0] ∧ h.get? C = some oc ∧ oc.data = .seq items n ∧ (items.map reRawOf).map (·.toNat) = code
theorem IsPat.keeps {h h' : Heap} {P : Addr} {code : Array Nat} (p : IsPat h P code) (hk : ∀ b o, h.get? b = some o → h'.get? b = some o) : IsPat h' P code := by
  obtain ⟨o, oc, C, pv, fl, items, n, h1, h2, h3, h4, h5, h6, h7⟩ := p.has
  exact ⟨o, oc, C, pv, fl, items, n, hk _ _ h1, h2, h3, h4, hk _ _ h5, h6, h7⟩

theorem wholeTarget {P : Addr} {code : Array Nat} {x : Str} {t : Tok} {Q : ReTarget → Shared → Prop} (p : IsPat s.heap P code)
    (hQ : Q { pattern := .ref P, string := .str x t, code := code, text := x.cps, kind := 0, groups := 0, pos := 0, lim := x.cps.size } s) :
    wpAny Mo A (reWholeTarget (.ref P) (.str x t)) Q E s := by
  obtain ⟨o, oc, C, pv, fl, items, n, h1, h2, h3, h4, h5, h6, h7⟩ := p.has
  unfold reWholeTarget
  refine wpAny_bind (wpAny_fieldsOf h1 h4 ?_)
  unfold reTextOf asStr?
  refine wpAny_bind (wpAny_pure ?_)
  show wpAny Mo A (reRawItems (.ref C) >>= fun l => pure ({ pattern := .ref P, string := .str x t, code := l.map (·.toNat), text := x.cps, kind := 0, groups := 0, pos := 0, lim := x.cps.size } : ReTarget)) Q E s
  unfold reRawItems
  refine wpAny_bind (wpAny_bind (wpAny_seqItems h5 h6 (wpAny_pure (wpAny_pure ?_))))
  show Q { pattern := .ref P, string := .str x t, code := (items.map reRawOf).map (·.toNat), text := x.cps, kind := 0, groups := 0, pos := 0, lim := x.cps.size } s
  rw [h7]
  exact hQ

def pieces (find : Nat → Nat → Option (Nat × Nat)) (T : Array Nat) (rp : Str) : (fuel d q : Nat) → List Str
  | 0, _, _ => []
  | fuel + 1, d, q => match find d q with
    | none => if 0 < d then [⟨T.extract q (q + d)⟩] else []
    | some (r, e) => (if q < r then [⟨T.extract q r⟩] else []) ++ rp :: pieces find T rp fuel (q + d - e) e

end
section
variable {prog : Program} {w : World} {A : Around} {E : Value → Shared → Prop}

def glue (l : List Str) : Str := ⟨(l.flatMap (·.cps.toList)).toArray⟩

theorem join_nil_eq (l : List Str) : Txt.join ⟨#[]⟩ l = glue l := by
  show Builtin.Str.glued ⟨#[]⟩ l = _
  rw [StrLaws.glued_eq_join]
  induction l with
  | nil => rfl
  | cons x l ih =>
    cases l with
    | nil => simp [PySem.Str.join, glue]
    | cons y l =>
      have e : PySem.Str.join ⟨#[]⟩ (x :: y :: l) = x ++ ⟨#[]⟩ ++ PySem.Str.join ⟨#[]⟩ (y :: l) := rfl
      rw [e, ih]
      apply PySem.Str.ext'
      simp only [PySem.Str.cps_append, glue]
      simp

theorem pushW {D : Addr} {s : Shared} {items : Array Value} {k : Nat} {v : Value} {Q : Unit → Shared → Prop} (hl : s.heap.get? D = some { cls := .type "list", data := .seq items k }) (hz : items.size ≤ sizeLine)
    (h : ∀ h' k', h'.get? D = some { cls := .type "list", data := .seq (items.push v) k' } → (∀ b, b ≠ D → h'.get? b = s.heap.get? b) → Q () { s with heap := h' }) :
    wpAny (model prog w) A (updateSeq D (·.push v)) Q E s := by
  refine wpAny_updateSeq hl rfl ?_ hz (by rw [Array.size_push]; omega)
  refine h _ (k + 1) ?_ (fun b hb => (Heap.SameBut.update s.heap D _).2 b hb)
  rw [Heap.get?_update_self _ hl (by rw [Obj.mapSeq_push_plain]; rfl), Obj.mapSeq_push_plain]

theorem slice_text {T : Array Nat} {b e : Nat} {s : Shared} {Q : Value → Shared → Prop} (hT : T.size ≤ 1000000) (h : Q (.str ⟨T.extract b e⟩ s.toks) { s with toks := s.toks + 1 }) :
    wpAny (model prog w) A (reSlice T 0 b e) Q E s := by
  show wpAny (model prog w) A (mkStr ⟨T.extract b e⟩) Q E s
  refine wpAny_mkStr h ?_
  show (T.extract b e).size ≤ sizeLine
  rw [Array.size_extract, sizeLine_eq]
  omega

theorem stopW {T : Array Nat} {D : Addr} {s : Shared} {items : Array Value} {k : Nat} {ys : List Str} {R : Result → Shared → Prop} {F : PySem.Fin → Shared → Prop} (hT : T.size ≤ 1000000) (hl : s.heap.get? D = some { cls := .type "list", data := .seq items k }) (hi : StrsAre items.toList ys)
    (hs : (ys.map (·.length)).sum ≤ 16777216) (hF : ∀ tk t', F (.done (.ret (.str (glue ys) t'))) { s with toks := tk }) :
    wpAny (model prog w) A (do
      let joiner ← reSlice T 0 0 0
      let its ← seqItems? (.ref D)
      if (its.getD #[]).isEmpty then ret joiner
        else call (.builtin "str.join") [joiner, .ref D] >>= fun text => ret text) F E s := by
  refine wpAny_bind (slice_text hT ?_)
  refine wpAny_bind (wpAny_seqItems (s := { s with toks := s.toks + 1 }) hl rfl ?_)
  have e0 : T.extract 0 0 = #[] := by simp
  rw [e0]
  by_cases hc : items.isEmpty = true
  · have hne : items = #[] := by simpa using hc
    subst hne
    cases hi
    show wpAny (model prog w) A (ret _) F E _
    exact wpAny_pure (hF _ _)
  · have hc' : ((some items).getD #[]).isEmpty = false := by simpa using hc
    rw [hc']
    show wpAny (model prog w) A (call (.builtin "str.join") [.str ⟨#[]⟩ s.toks, .ref D] >>= fun text => ret text) F E _
    refine wpAny_bind (join_list (ys := ys) ⟨_, hl, rfl, k, rfl⟩ hi (by show _ + _ * 0 ≤ _; omega) (fun t' k' => ?_))
    rw [join_nil_eq]
    exact wpAny_pure (hF _ _)

theorem subLoop {find : Nat → Nat → Option (Nat × Nat)} {code : Array Nat} {x rp : Str} {t tr : Tok} {P D : Addr} {N : Nat} {h₀ : Heap}
    (hfind : ∀ q d, q + d = x.cps.size → Ends N (forSearch code x.cps 0 q x.cps.size false) (Says (find d q))) (hN : N ≤ 2 ^ 65)
    (hspec : ∀ d q r e, find d q = some (r, e) → q ≤ r ∧ r < e ∧ e ≤ q + d) (hx : x.cps.size ≤ 1000000) (hrp : rp.cps.size ≤ 8) (hD : h₀.get? D = none) {R : Result → Shared → Prop} :
    ∀ (fuel d q : Nat), d < fuel → q + d = x.cps.size → ∀ (s : Shared) (n : Int) (items : Array Value) (k : Nat) (ys : List Str), s.heap.get? D = some { cls := .type "list", data := .seq items k } → StrsAre items.toList ys →
      (∀ b o, h₀.get? b = some o → s.heap.get? b = some o) → IsPat h₀ P code → items.size ≤ 2 * q → (ys.map (·.length)).sum ≤ 9 * q →
      (∀ (h' : Heap) (tk : Nat) (t' : Tok), (∀ b o, h₀.get? b = some o → h'.get? b = some o) → R (.ok (.ret (.str (glue (ys ++ pieces find x.cps rp fuel d q)) t'))) { s with heap := h', toks := tk }) →
      codeAny (model prog w) A (.builtin "re.Pattern.sub.loop" ⟨[.ref P, .str x t, .str rp tr, rawInt 0, rawInt 0, rawInt n, rawInt q, rawInt q, .bool false, .ref D, .bool false], []⟩) R s
  | 0, d, q, hf, _, _, _, _, _, _, _, _, _, _, _, _, _ => absurd hf (Nat.not_lt_zero _)
  | fuel + 1, d, q, hf, hq, s, n, items, k, ys, hl, hi, hk, hp, hz, hs, hR => by
    have hbD : ∀ b o, h₀.get? b = some o → b ≠ D := fun b o hb e => by rw [e, hD] at hb; cases hb
    have sl : sizeLine = 16777216 := sizeLine_eq
    refine codeAny_builtin entry_subloop ?_
    rw [Around.under_plainId (by decide +kernel)]
    unfold «re.Pattern.sub.loop»
    refine wpAny_bind (wholeTarget (hp.keeps hk) ?_)
    let tg : ReTarget := { pattern := .ref P, string := .str x t, code := code, text := x.cps, kind := 0, groups := 0, pos := 0, lim := x.cps.size }
    let goOn : Sre.M → Sem Fin := fun m => (do
      updateSeq D (·.push (.str rp tr))
      again (.builtin "re.Pattern.sub.loop" ⟨[.ref P, .str x t, .str rp tr, rawInt 0, rawInt 0, rawInt (n + 1), rawInt m.handed, rawInt m.handed, .bool (m.handed == m.start), .ref D, .bool false], []⟩))
    let stop : Sem Fin := (do
      let joiner ← reSlice x.cps 0 0 0
      let its ← seqItems? (.ref D)
      if (its.getD #[]).isEmpty then ret joiner
        else call (.builtin "str.join") [joiner, .ref D] >>= fun text => ret text)
    show wpAny (model prog w) A.in1 (reNextFound tg q false >>= fun o => match o with
      | some m => if q < m.start then (do
            let piece ← reSlice x.cps 0 q m.start
            updateSeq D (·.push piece)
            goOn m) else goOn m
      | none => if q < x.cps.size then (do
            let piece ← reSlice x.cps 0 q x.cps.size
            updateSeq D (·.push piece)
            stop) else stop) _ _ s
    refine wpAny_bind (runToEnd (hfind q d hq) hN (fun o ho => ?_))
    unfold pieces at hR
    cases hfd : find d q with
    | none =>
      rw [hfd] at ho hR
      simp only at ho hR
      subst ho
      show wpAny (model prog w) A.in1 (if q < x.cps.size then (do
            let piece ← reSlice x.cps 0 q x.cps.size
            updateSeq D (·.push piece)
            stop) else stop) _ _ s
      by_cases hlt : q < x.cps.size
      · rw [if_pos hlt]
        rw [if_pos (by omega)] at hR
        refine wpAny_bind (slice_text hx ?_)
        refine wpAny_bind (pushW (s := { s with toks := s.toks + 1 }) hl (by rw [sl]; omega) (fun h' k' hl' hk' => ?_))
        refine stopW (ys := ys ++ [⟨x.cps.extract q (q + d)⟩]) (R := R) hx hl' ?_ ?_ (fun tk t' => ?_)
        · rw [Array.toList_push]
          exact StrsAre.append' hi (by rw [hq]; exact .cons _ _ .nil)
        · rw [List.map_append, List.sum_append]
          simp only [List.map_cons, List.map_nil, List.sum_cons, List.sum_nil]
          have : (PySem.Str.mk (x.cps.extract q (q + d))).length ≤ 1000000 := by
            show (x.cps.extract q (q + d)).size ≤ _
            rw [Array.size_extract]; omega
          omega
        · exact hR h' tk t' (fun b o hb => (hk' b (hbD b o hb)).trans (hk b o hb))
      · rw [if_neg hlt]
        rw [if_neg (by omega)] at hR
        refine stopW (ys := ys ++ []) (R := R) hx hl (by rw [List.append_nil]; exact hi) (by rw [List.append_nil]; omega) (fun tk t' => ?_)
        exact hR _ tk t' hk
    | some p =>
      obtain ⟨r, e⟩ := p
      rw [hfd] at ho hR
      simp only at ho hR
      obtain ⟨m, rfl, hm1, hm2⟩ := ho
      obtain ⟨h1, h2, h3⟩ := hspec d q r e hfd
      have goes : ∀ (s' : Shared) (items' : Array Value) (k' : Nat) (ys' : List Str), s'.heap.get? D = some { cls := .type "list", data := .seq items' k' } → StrsAre items'.toList ys' → (∀ b o, h₀.get? b = some o → s'.heap.get? b = some o) →
          items'.size ≤ 2 * r + 1 → (ys'.map (·.length)).sum ≤ 9 * r → (∀ (h' : Heap) (tk : Nat) (t' : Tok), (∀ b o, h₀.get? b = some o → h'.get? b = some o) → R (.ok (.ret (.str (glue (ys' ++ rp :: pieces find x.cps rp fuel (q + d - e) e)) t'))) { s' with heap := h', toks := tk }) →
          wpAny (model prog w) A.in1 (goOn m) (fun fin s' => match fin with | .done f => R (.ok f) s' | .again c' => c'.quiet = true ∧ codeAny (model prog w) A c' R s') (fun e s' => R (.error e) s') s' := by
        intro s' items' k' ys' hl' hi' hk' hz' hs' hR'
        refine wpAny_bind (pushW hl' (by rw [sl]; omega) (fun h'' k'' hl'' hk'' => ?_))
        refine wpAny_pure ⟨plainId_quiet (by decide +kernel) _, ?_⟩
        rw [hm1, hm2, show (e == r) = false by simp; omega]
        refine subLoop hfind hN hspec hx hrp hD fuel (q + d - e) e (by omega) (by omega) _ _ _ k'' (ys' ++ [rp]) hl'' ?_ ?_ hp ?_ ?_ ?_
        · rw [Array.toList_push]
          exact StrsAre.append' hi' (.cons _ _ .nil)
        · exact fun b o hb => (hk'' b (hbD b o hb)).trans (hk' b o hb)
        · rw [Array.size_push]; omega
        · rw [List.map_append, List.sum_append]
          simp only [List.map_cons, List.map_nil, List.sum_cons, List.sum_nil]
          have : rp.length ≤ 8 := hrp
          omega
        · intro h3 tk t' hk3
          rw [List.append_assoc]
          exact hR' h3 tk t' hk3
      show wpAny (model prog w) A.in1 (if q < m.start then (do
            let piece ← reSlice x.cps 0 q m.start
            updateSeq D (·.push piece)
            goOn m) else goOn m) _ _ s
      rw [hm1]
      by_cases hlt : q < r
      · rw [if_pos hlt]
        rw [if_pos hlt] at hR
        refine wpAny_bind (slice_text hx ?_)
        refine wpAny_bind (pushW (s := { s with toks := s.toks + 1 }) hl (by rw [sl]; omega) (fun h' k' hl' hk' => ?_))
        refine goes _ _ k' (ys ++ [⟨x.cps.extract q r⟩]) hl' ?_ ?_ ?_ ?_ ?_
        · rw [Array.toList_push]
          exact StrsAre.append' hi (.cons _ _ .nil)
        · exact fun b o hb => (hk' b (hbD b o hb)).trans (hk b o hb)
        · rw [Array.size_push]; omega
        · rw [List.map_append, List.sum_append]
          simp only [List.map_cons, List.map_nil, List.sum_cons, List.sum_nil]
          have : (PySem.Str.mk (x.cps.extract q r)).length ≤ r - q := by
            show (x.cps.extract q r).size ≤ _
            rw [Array.size_extract]; omega
          omega
        · intro h3 tk t' hk3
          rw [List.append_assoc]
          exact hR h3 tk t' hk3
      · rw [if_neg hlt]
        rw [if_neg hlt] at hR
        exact goes s items k ys hl hi hk (by omega) (by omega) (fun h3 tk t' hk3 => hR h3 tk t' hk3)
end
end Rx
end Mine
end
section
open PySem PySem.W PyProof.Rows PySem.Sre PySem.Builtin PySem.Builtin.Re
set_option linter.unusedSimpArgs false
set_option linter.unusedVariables false
namespace Mine
namespace Rx
section
variable {prog : Program} {w : World} {A : Around} {E : Value → Shared → Prop}

theorem getMethod_sub {s : Shared} {P : Addr} {code : Array Nat} {pl : Sem Bool} {Q : Value × List Value → Shared → Prop} (p : IsPat s.heap P code)
    (h : Q (.builtin "re.Pattern.sub", [.ref P]) s) : wpAny (model prog w) A (getMethod (.ref P) "sub" pl) Q E s := by
  obtain ⟨o, oc, C, pv, fl, items, n, h1, h2, h3, h4, h5, h6, h7⟩ := p.has
  exact getMethod_builtin ⟨o, h1, h2⟩ plainAttrs_rep slot_sub type_sub (fun a e => by cases e; exact ⟨o, h1, h3⟩) h

theorem str_no_call : typeLookup (.type "str") "__call__" = pure none := by rw [typeLookup_type, builtinLookup_eq_fast]; kernel_rfl

theorem fresh_none (h : Heap) : h.get? h.objs.size = none := by
  cases e : h.get? h.objs.size with
  | none => rfl
  | some o => exact absurd (Heap.lt_size e) (Nat.lt_irrefl _)

theorem named_sub (a b : Value) : reNamed "re.Pattern.sub" "sub" ["repl", "string", "count"] 2 [a, b] [] = pure [some a, some b, none] := rfl

theorem subCall {find : Nat → Nat → Option (Nat × Nat)} {code : Array Nat} {x rp : Str} {t tr : Tok} {P : Addr} {N : Nat} {s : Shared} {Q : Value → Shared → Prop}
    (hfind : ∀ q d, q + d = x.cps.size → Ends N (forSearch code x.cps 0 q x.cps.size false) (Says (find d q))) (hN : N ≤ 2 ^ 65)
    (hspec : ∀ d q r e, find d q = some (r, e) → q ≤ r ∧ r < e ∧ e ≤ q + d) (hx : x.cps.size ≤ 1000000) (hrp : rp.cps.size ≤ 8) (hr92 : rp.cps.contains 92 = false) (hp : IsPat s.heap P code)
    (hQ : ∀ (h' : Heap) (tk : Nat) (t' : Tok), (∀ b o, s.heap.get? b = some o → h'.get? b = some o) → Q (.str (glue (pieces find x.cps rp (x.cps.size + 1) x.cps.size 0)) t') { s with heap := h', toks := tk }) :
    wpAny (model prog w) A (call (.builtin "re.Pattern.sub") [.ref P, .str rp tr, .str x t]) Q E s := by
  obtain ⟨o, oc, C, pv, fl, items, n, h1, h2, h3, h4, h5, h6, h7⟩ := hp.has
  refine wpAny_call (codeAny_call_builtin slot_sub.plain entry_sub (slot_sub.check _ _ _ _ _ _ _ _ ⟨o, h1, h2⟩ (args_sub_3 _ _ _) ?_))
  unfold «re.Pattern.sub» reSubstitute
  show wpAny (model prog w) A.in1 (reNamed "re.Pattern.sub" "sub" ["repl", "string", "count"] 2 [.str rp tr, .str x t] [] >>= _) _ _ s
  rw [named_sub]
  refine wpAny_bind (wpAny_pure ?_)
  show wpAny (model prog w) A.in1 ((pure (0 : Int) : Sem Int) >>= _) _ _ s
  refine wpAny_bind (wpAny_pure ?_)
  refine wpAny_bind (wpAny_specialOf (typeIs_str _ _ _) str_no_call ?_)
  have fin : wpAny (model prog w) A.in1 (holding [.str rp tr] (reWholeTarget (.ref P) (.str x t)) >>= fun _ => newList [] >>= fun l => again
      (Code.builtin "re.Pattern.sub.loop" ⟨[.ref P, .str x t, .str rp tr, rawInt 0, rawInt 0, rawInt 0, rawInt 0, rawInt 0, Value.bool false, l, Value.bool false], []⟩))
      (fun fin s' => match fin with | .done f => (match (Except.ok f : Result) with | .ok (.ret v) => Q v s' | .ok _ => False | .error e => E e s') | .again c' => c'.quiet = true ∧ codeAny (model prog w) A c' (fun r s' => match r with | .ok (.ret v) => Q v s' | .ok _ => False | .error e => E e s') s')
      (fun e s' => E e s') s := by
    refine wpAny_bind (wpAny_holding (wholeTarget hp ?_))
    refine wpAny_bind (wpAny_newList ?_ (by decide))
    refine wpAny_pure ⟨plainId_quiet (by decide +kernel) _, ?_⟩
    refine subLoop (q := 0) (h₀ := s.heap) hfind hN hspec hx hrp (fresh_none _) (x.cps.size + 1) x.cps.size (by omega) (by omega) _ 0 #[] 0 [] (Heap.get?_push_size _ rfl) .nil (fun b o hb => Heap.get?_push_of_some _ hb) hp (by simp) (by simp) ?_
    intro h' tk t' hk
    exact hQ h' tk t' hk
  have hl : (!rp.cps.contains 92) = true := by rw [hr92]; rfl
  show wpAny (model prog w) A.in1 (asStr? (.str rp tr) >>= _) _ _ s
  refine wpAny_bind (wpAny_pure ?_)
  show wpAny (model prog w) A.in1 ((pure (!rp.cps.contains 92) : Sem Bool) >>= _) _ _ s
  refine wpAny_bind (wpAny_pure ?_)
  rw [hl]
  exact fin
end
end Rx
end Mine
end
section
open PySem PySem.W PyProof.Rows PySem.Sre PySem.Builtin PySem.Builtin.Re
set_option linter.unusedSimpArgs false
set_option linter.unusedVariables false
namespace Mine
namespace Rx

def dotL : Bool → List Nat → List Nat
  | _, [] => []
  | b, c :: r => (if b && c == 46 then [46, 46] else [c]) ++ dotL (c == 10) r

def crlfL : List Nat → List Nat
  | [] => []
  | 13 :: 10 :: r => 13 :: 10 :: crlfL r
  | c :: r => if nl c then 13 :: 10 :: crlfL r else c :: crlfL r

theorem drop_cons {T : Array Nat} {q : Nat} (h : q < T.size) : T.toList.drop q = T.getD q 0 :: T.toList.drop (q + 1) := by
  rw [List.drop_eq_getElem_cons (by simpa using h)]
  simp [Array.getD, h]

theorem extract_cons {T : Array Nat} {q r : Nat} (h : q < r) (hr : r ≤ T.size) : (T.extract q r).toList = T.getD q 0 :: (T.extract (q + 1) r).toList := by
  rw [Array.toList_extract, Array.toList_extract, List.extract_eq_take_drop, List.extract_eq_take_drop, drop_cons (by omega), show r - q = (r - (q + 1)) + 1 by omega, List.take_succ_cons]
theorem extract_self {T : Array Nat} {q : Nat} : (T.extract q q).toList = [] := by simp

theorem find1_none {T : Array Nat} : ∀ (d q : Nat), find1 T d q = none → ∀ i, q ≤ i → i < q + d → hit1 T i = false
  | 0, q, _, i, h1, h2 => by omega
  | d + 1, q, h, i, h1, h2 => by
    unfold find1 at h
    by_cases hh : hit1 T q = true
    · rw [if_pos hh] at h; cases h
    · rw [if_neg hh] at h
      by_cases hi : i = q
      · subst hi; simpa using hh
      · exact find1_none d (q + 1) h i (by omega) (by omega)
theorem find1_some {T : Array Nat} : ∀ (d q r e : Nat), find1 T d q = some (r, e) → q ≤ r ∧ r < q + d ∧ e = r + 1 ∧ hit1 T r = true ∧ ∀ i, q ≤ i → i < r → hit1 T i = false
  | 0, q, r, e, h => by simp [find1] at h
  | d + 1, q, r, e, h => by
    unfold find1 at h
    by_cases hh : hit1 T q = true
    · rw [if_pos hh] at h
      obtain ⟨rfl, rfl⟩ := by simpa only [Option.some.injEq, Prod.mk.injEq] using h
      exact ⟨by omega, by omega, rfl, hh, fun i h1 h2 => by omega⟩
    · rw [if_neg hh] at h
      obtain ⟨h1, h2, h3, h4, h5⟩ := find1_some d (q + 1) r e h
      refine ⟨by omega, by omega, h3, h4, fun i hi1 hi2 => ?_⟩
      by_cases hi : i = q
      · subst hi; simpa using hh
      · exact h5 i (by omega) hi2

theorem dotL_run {T : Array Nat} : ∀ (k q : Nat), q + k ≤ T.size → (∀ i, q ≤ i → i < q + k → hit1 T i = false) →
    dotL (bol T q) (T.toList.drop q) = (T.extract q (q + k)).toList ++ dotL (bol T (q + k)) (T.toList.drop (q + k))
  | 0, q, h, _ => by simp
  | k + 1, q, h, hn => by
    have ih := dotL_run k (q + 1) (by omega) (fun i h1 h2 => hn i (by omega) (by omega))
    rw [show q + 1 + k = q + (k + 1) by omega] at ih
    rw [drop_cons (by omega), extract_cons (by omega) h, dotL]
    have h0 : (bol T q && T.getD q 0 == 46) = false := hn q (by omega) (by omega)
    rw [h0]
    have hb : (T.getD q 0 == 10) = bol T (q + 1) := by simp [bol]
    rw [hb, ih]
    simp

theorem pieces1 {T : Array Nat} : ∀ (fuel d q : Nat), d < fuel → q + d = T.size → (pieces (find1 T) T ⟨#[46, 46]⟩ fuel d q).flatMap (·.cps.toList) = dotL (bol T q) (T.toList.drop q)
  | 0, d, q, h, _ => absurd h (Nat.not_lt_zero _)
  | fuel + 1, d, q, h, hq => by
    unfold pieces
    cases hf : find1 T d q with
    | none =>
      have hn := find1_none d q hf
      rw [dotL_run d q (by omega) hn, show q + d = T.size from hq]
      have e0 : T.toList.drop T.size = [] := by simp
      rw [e0]
      by_cases hd : 0 < d
      · simp [hd, dotL]
      · have : d = 0 := by omega
        subst this
        simp [dotL, ← hq]
    | some p =>
      obtain ⟨r, e⟩ := p
      obtain ⟨h1, h2, h3, h4, h5⟩ := find1_some d q r e hf
      subst h3
      obtain ⟨k, rfl⟩ : ∃ k, r = q + k := ⟨r - q, by omega⟩
      have ih := pieces1 (T := T) fuel (q + d - (q + k + 1)) (q + k + 1) (by omega) (by omega)
      rw [dotL_run k q (by omega) h5, drop_cons (by omega), dotL]
      unfold hit1 at h4
      rw [h4]
      have h46 : T.getD (q + k) 0 = 46 := by
        simp only [Bool.and_eq_true] at h4
        simpa using h4.2
      have hb : (T.getD (q + k) 0 == 10) = bol T (q + k + 1) := by simp [bol]
      rw [hb, ← ih]
      simp only [List.flatMap_append, List.flatMap_cons]
      by_cases hk : q < q + k
      · simp [hk]
      · have : k = 0 := by omega
        subst this
        simp

theorem find2_none {T : Array Nat} : ∀ (d q : Nat), find2 T d q = none → ∀ i, q ≤ i → i < q + d → nl (T.getD i 0) = false
  | 0, q, _, i, h1, h2 => by omega
  | d + 1, q, h, i, h1, h2 => by
    unfold find2 at h
    by_cases hh : nl (T.getD q 0) = true
    · rw [if_pos hh] at h; cases h
    · rw [if_neg hh] at h
      by_cases hi : i = q
      · subst hi; simpa using hh
      · exact find2_none d (q + 1) h i (by omega) (by omega)
theorem find2_before {T : Array Nat} : ∀ (d q r e : Nat), find2 T d q = some (r, e) → ∀ i, q ≤ i → i < r → nl (T.getD i 0) = false
  | 0, q, r, e, h => by simp [find2] at h
  | d + 1, q, r, e, h => by
    unfold find2 at h
    by_cases hh : nl (T.getD q 0) = true
    · rw [if_pos hh] at h
      obtain ⟨rfl, rfl⟩ := by simpa only [Option.some.injEq, Prod.mk.injEq] using h
      exact fun i h1 h2 => by omega
    · rw [if_neg hh] at h
      intro i hi1 hi2
      by_cases hi : i = q
      · subst hi; simpa using hh
      · exact find2_before d (q + 1) r e h i (by omega) hi2

theorem crlfL_plain {c : Nat} {r : List Nat} (h : nl c = false) : crlfL (c :: r) = c :: crlfL r := by
  have h13 : c ≠ 13 := by rintro rfl; simp [nl] at h
  rw [crlfL]
  · simp [h]
  · intro r' e _; exact absurd e h13
theorem crlfL_nl {c : Nat} {r : List Nat} (h : nl c = true) (h2 : c = 13 → ∀ r', r ≠ 10 :: r') : crlfL (c :: r) = 13 :: 10 :: crlfL r := by
  rw [crlfL]
  · simp [h]
  · intro r' e e'; exact absurd e' (h2 e r')
theorem crlfL_crlf {r : List Nat} : crlfL (13 :: 10 :: r) = 13 :: 10 :: crlfL r := by rw [crlfL]

theorem crlfL_run {T : Array Nat} : ∀ (k q : Nat), q + k ≤ T.size → (∀ i, q ≤ i → i < q + k → nl (T.getD i 0) = false) →
    crlfL (T.toList.drop q) = (T.extract q (q + k)).toList ++ crlfL (T.toList.drop (q + k))
  | 0, q, h, _ => by simp
  | k + 1, q, h, hn => by
    have ih := crlfL_run k (q + 1) (by omega) (fun i h1 h2 => hn i (by omega) (by omega))
    rw [show q + 1 + k = q + (k + 1) by omega] at ih
    rw [drop_cons (by omega), extract_cons (by omega) h, crlfL_plain (hn q (by omega) (by omega)), ih]
    simp

theorem pieces2 {T : Array Nat} : ∀ (fuel d q : Nat), d < fuel → q + d = T.size → (pieces (find2 T) T ⟨#[13, 10]⟩ fuel d q).flatMap (·.cps.toList) = crlfL (T.toList.drop q)
  | 0, d, q, h, _ => absurd h (Nat.not_lt_zero _)
  | fuel + 1, d, q, h, hq => by
    unfold pieces
    cases hf : find2 T d q with
    | none =>
      have hn := find2_none d q hf
      rw [crlfL_run d q (by omega) hn, show q + d = T.size from hq]
      have e0 : T.toList.drop T.size = [] := by simp
      rw [e0]
      by_cases hd : 0 < d
      · simp [hd, crlfL]
      · have : d = 0 := by omega
        subst this
        simp [crlfL, ← hq]
    | some p =>
      obtain ⟨r, e⟩ := p
      obtain ⟨h1, h2, h3, h4⟩ := find2_spec d q hf
      have h5 := find2_before d q r e hf
      obtain ⟨k, rfl⟩ : ∃ k, r = q + k := ⟨r - q, by omega⟩
      rw [hq] at h4
      have pre : ∀ l : List Nat, List.flatMap (fun x => x.cps.toList) (if q < q + k then [(⟨T.extract q (q + k)⟩ : Str)] else []) ++ l = (T.extract q (q + k)).toList ++ l := by
        intro l
        by_cases hk : q < q + k
        · simp [hk]
        · have : k = 0 := by omega
          subst this
          simp
      rw [crlfL_run k q (by omega) h5]
      simp only [List.flatMap_append, List.flatMap_cons]
      rw [pre]
      congr 1
      by_cases hc : (T.getD (q + k) 0 == 13 && q + k + 1 != T.size && T.getD (q + k + 1) 0 == 10) = true
      · rw [if_pos hc] at h4
        subst h4
        simp only [Bool.and_eq_true, beq_iff_eq, bne_iff_ne, ne_eq] at hc
        rw [pieces2 fuel (q + d - (q + k + 2)) (q + k + 2) (by omega) (by omega)]
        rw [drop_cons (T := T) (q := q + k) (by omega), drop_cons (T := T) (q := q + k + 1) (by omega), hc.1.1, hc.2, crlfL_crlf]
        simp
      · rw [if_neg hc] at h4
        subst h4
        rw [pieces2 fuel (q + d - (q + k + 1)) (q + k + 1) (by omega) (by omega)]
        rw [drop_cons (T := T) (q := q + k) (by omega), crlfL_nl h3]
        · simp
        · intro e13 r' er
          refine hc ?_
          have hlt : q + k + 1 < T.size := by
            rcases Nat.lt_or_ge (q + k + 1) T.size with x | x
            · exact x
            · rw [List.drop_of_length_le (by simpa using x)] at er
              cases er
          rw [drop_cons hlt] at er
          simp only [List.cons.injEq] at er
          simp only [Bool.and_eq_true, beq_iff_eq, bne_iff_ne, ne_eq]
          exact ⟨⟨e13, by omega⟩, er.1⟩

/-- what quotedata gives -/
def dotS (x : Str) : Str := ⟨(dotL true x.cps.toList).toArray⟩
def crlfS (x : Str) : Str := ⟨(crlfL x.cps.toList).toArray⟩
def quoteS (x : Str) : Str := dotS (crlfS x)

theorem dotL_length : ∀ (b : Bool) (l : List Nat), (dotL b l).length ≤ 2 * l.length
  | _, [] => by simp [dotL]
  | b, c :: r => by
    have := dotL_length (c == 10) r
    rw [dotL]
    split <;> simp <;> omega
theorem crlfL_length (l : List Nat) : (crlfL l).length ≤ 2 * l.length := by
  fun_induction crlfL l with
  | case1 => simp
  | case2 r ih => simp; omega
  | case3 c r h1 h2 ih => simp; omega
  | case4 c r h1 h2 ih => simp; omega

section
variable {prog : Program} {w : World} {A : Around} {E : Value → Shared → Prop}
theorem sub1 {x : Str} {t tr : Tok} {P : Addr} {s : Shared} {Q : Value → Shared → Prop} (hx : x.cps.size ≤ 1000000) (hp : IsPat s.heap P c1)
    (hQ : ∀ (h' : Heap) (tk : Nat) (t' : Tok), (∀ b o, s.heap.get? b = some o → h'.get? b = some o) → Q (.str (dotS x) t') { s with heap := h', toks := tk }) :
    wpAny (model prog w) A (call (.builtin "re.Pattern.sub") [.ref P, .str (Str.ofString "..") tr, .str x t]) Q E s := by
  have er : Str.ofString ".." = ⟨#[46, 46]⟩ := by decide +kernel
  rw [er]
  refine subCall (find := find1 x.cps) (code := c1) (N := 3 * x.cps.size + 6) (fun q d h => (search1 h).mono (by omega) (fun m h => h)) (by omega) (fun d q r e h => ?_) hx (by decide) (by decide +kernel) hp (fun h' tk t' hk => ?_)
  · obtain ⟨h1, h2, h3, _, _⟩ := find1_some d q r e h
    omega
  · have := hQ h' tk t' hk
    unfold dotS at this
    unfold glue
    rw [pieces1 _ _ _ (by omega) (by omega)]
    simpa [bol] using this
theorem sub2 {x : Str} {t tr : Tok} {P : Addr} {s : Shared} {Q : Value → Shared → Prop} (hx : x.cps.size ≤ 1000000) (hp : IsPat s.heap P c2)
    (hQ : ∀ (h' : Heap) (tk : Nat) (t' : Tok), (∀ b o, s.heap.get? b = some o → h'.get? b = some o) → Q (.str (crlfS x) t') { s with heap := h', toks := tk }) :
    wpAny (model prog w) A (call (.builtin "re.Pattern.sub") [.ref P, .str (Str.ofString "\x0d\n") tr, .str x t]) Q E s := by
  have er : Str.ofString "\x0d\n" = ⟨#[13, 10]⟩ := by decide +kernel
  rw [er]
  refine subCall (find := find2 x.cps) (code := c2) (N := 17) (fun q d h => search2 h) (by omega) (fun d q r e h => ?_) hx (by decide) (by decide +kernel) hp (fun h' tk t' hk => ?_)
  · obtain ⟨h1, h2, h3, h4⟩ := find2_spec d q h
    split at h4
    · rename_i hc
      simp only [Bool.and_eq_true, beq_iff_eq, bne_iff_ne, ne_eq] at hc
      omega
    · omega
  · have := hQ h' tk t' hk
    unfold crlfS at this
    unfold glue
    rw [pieces2 _ _ _ (by omega) (by omega)]
    simpa using this
end
end Rx
end Mine
end
section
open PySem PySem.W PyProof.Rows
set_option linter.unusedSimpArgs false
set_option linter.unusedVariables false
namespace Mine
namespace Pa
/-- what parse257 reads behind the opening mark -/
def unqL : List Nat → List Nat
  | [] => []
  | [c] => if c == 34 then [] else [c]
  | c :: d :: r => if c == 34 then (if d == 34 then 34 :: unqL r else []) else c :: unqL (d :: r)
theorem unqL_plain {c : Nat} (r : List Nat) (h : c ≠ 34) : unqL (c :: r) = c :: unqL r := by
  cases r with
  | nil => simp [unqL, h]
  | cons d r => rw [unqL]; simp [h]
theorem unqL_two (r : List Nat) : unqL (34 :: 34 :: r) = 34 :: unqL r := by rw [unqL]; simp
theorem unqL_last : unqL [34] = [] := by simp [unqL]
theorem unqL_stop {d : Nat} (r : List Nat) (h : d ≠ 34) : unqL (34 :: d :: r) = [] := by rw [unqL]; simp [h]

def okS (x : Str) : Bool := Txt.slice x (some 3) (some 5) != Str.ofString " \""
def parseS (x : Str) : Str := if okS x then Str.ofString "" else ⟨(unqL (x.cps.toList.drop 5)).toArray⟩

def PInv (x dir : Str) (i : Int) : Prop := 5 ≤ i ∧ dir.cps.toList ++ unqL (x.cps.toList.drop i.toNat) = unqL (x.cps.toList.drop 5)

theorem str_eq {a b : Str} (h : a.cps.toList = b.cps.toList) : a = b := by
  cases a; cases b; simp at h; simp [h]
theorem quote_is : Str.ofString "\"" = ⟨#[34]⟩ := by decide +kernel
theorem item_is {x : Str} {i : Int} (h0 : 0 ≤ i) (h1 : i < x.length) : Txt.item x i = ⟨#[x.cps.toList.getD i.toNat 0]⟩ := by
  rw [PySem.W.item_meets ⟨h0, h1⟩]
  simp [Array.getD_eq_getD_getElem?, List.getD_eq_getElem?_getD]
theorem drop_is {x : Str} {i : Int} (h0 : 0 ≤ i) (h1 : i < x.length) : x.cps.toList.drop i.toNat = x.cps.toList.getD i.toNat 0 :: x.cps.toList.drop (i + 1).toNat := by
  have hl : i.toNat < x.cps.toList.length := by
    have : x.length = x.cps.toList.length := by simp [Str.length]
    omega
  rw [List.drop_eq_getElem_cons hl, show (i + 1).toNat = i.toNat + 1 by omega]
  have hl' : i.toNat < x.cps.size := by simpa using hl
  simp [List.getD_eq_getElem?_getD, hl']
theorem is_quote {x : Str} {i : Int} (h0 : 0 ≤ i) (h1 : i < x.length) (h : (Txt.item x i == Str.ofString "\"") = true) : x.cps.toList.getD i.toNat 0 = 34 := by
  rw [item_is h0 h1, quote_is] at h
  simpa using h
theorem no_quote {x : Str} {i : Int} (h0 : 0 ≤ i) (h1 : i < x.length) (h : (Txt.item x i == Str.ofString "\"") = false) : x.cps.toList.getD i.toNat 0 ≠ 34 := by
  rw [item_is h0 h1, quote_is] at h
  simpa using h

theorem pinv_start (x : Str) : PInv x (Str.ofString "") 5 := by
  have e : Str.ofString "" = ⟨#[]⟩ := by decide +kernel
  rw [e]
  exact ⟨by omega, by simp⟩
theorem pinv_plain {x dir : Str} {i : Int} (h : PInv x dir i) (h1 : i < x.length) (h2 : (Txt.item x i == Str.ofString "\"") = false) : PInv x (dir ++ Txt.item x i) (i + 1) := by
  obtain ⟨h5, he⟩ := h
  have hq := no_quote (by omega) h1 h2
  refine ⟨by omega, ?_⟩
  rw [← he, drop_is (by omega) h1, unqL_plain _ hq, item_is (by omega) h1, Str.cps_append]
  simp
theorem pinv_two {x dir : Str} {i : Int} (h : PInv x dir i) (h1 : i < x.length) (h2 : (Txt.item x i == Str.ofString "\"") = true) (h3 : ¬ (x.length : Int) ≤ i + 1) (h4 : (Txt.item x (i + 1) != Str.ofString "\"") = false) :
    PInv x (dir ++ Txt.item x i) (i + 1 + 1) := by
  obtain ⟨h5, he⟩ := h
  have hq := is_quote (by omega) h1 h2
  have hq2 := is_quote (x := x) (i := i + 1) (by omega) (by omega) (by simpa using h4)
  refine ⟨by omega, ?_⟩
  rw [← he, drop_is (by omega) h1, drop_is (i := i + 1) (by omega) (by omega), item_is (by omega) h1, hq, hq2, unqL_two, Str.cps_append]
  simp
theorem pinv_last {x dir : Str} {i : Int} (h : PInv x dir i) (hk : okS x = false) (h1 : i < x.length) (h2 : (Txt.item x i == Str.ofString "\"") = true) (h3 : (x.length : Int) ≤ i + 1) : dir = parseS x := by
  obtain ⟨h5, he⟩ := h
  have hq := is_quote (by omega) h1 h2
  unfold parseS
  rw [hk]
  apply str_eq
  have hd : x.cps.toList.drop (i + 1).toNat = [] := by
    apply List.drop_of_length_le
    have : x.length = x.cps.toList.length := by simp [Str.length]
    omega
  rw [drop_is (by omega) h1, hq, hd, unqL_last] at he
  simpa using he
theorem pinv_stop {x dir : Str} {i : Int} (h : PInv x dir i) (hk : okS x = false) (h1 : i < x.length) (h2 : (Txt.item x i == Str.ofString "\"") = true) (h3 : ¬ (x.length : Int) ≤ i + 1) (h4 : (Txt.item x (i + 1) != Str.ofString "\"") = true) : dir = parseS x := by
  obtain ⟨h5, he⟩ := h
  have hq := is_quote (by omega) h1 h2
  have hq2 := no_quote (x := x) (i := i + 1) (by omega) (by omega) (by simpa using h4)
  unfold parseS
  rw [hk]
  apply str_eq
  rw [drop_is (by omega) h1, hq, drop_is (i := i + 1) (by omega) (by omega), unqL_stop _ hq2] at he
  simpa using he
theorem pinv_exit {x dir : Str} {i : Int} (h : PInv x dir i) (hk : okS x = false) (h1 : ¬ i < x.length) : dir = parseS x := by
  obtain ⟨h5, he⟩ := h
  unfold parseS
  rw [hk]
  apply str_eq
  have hd : x.cps.toList.drop i.toNat = [] := by
    apply List.drop_of_length_le
    have : x.length = x.cps.toList.length := by simp [Str.length]
    omega
  rw [hd] at he
  simpa [unqL] using he
theorem parse_none {x : Str} (hk : okS x = true) : Str.ofString "" = parseS x := by unfold parseS; rw [hk]; rfl
theorem parse_len (x : Str) : (parseS x).length ≤ x.length := by
  unfold parseS
  have key : ∀ l : List Nat, (unqL l).length ≤ l.length := by
    intro l
    fun_induction unqL l <;> simp_all <;> omega
  split
  · rw [show Str.ofString "" = ⟨#[]⟩ by decide +kernel]; exact Nat.zero_le _
  · show (unqL (x.cps.toList.drop 5)).toArray.size ≤ x.cps.size
    have := key (x.cps.toList.drop 5)
    simp at this ⊢
    omega
end Pa
end Mine
end
section
open PySem PySem.W PyProof.Rows
set_option linter.unusedSimpArgs false
set_option linter.unusedVariables false
namespace Mine
namespace St
/-- a sign for a text, on lists -/
def putL (c : Nat) (z : List Nat) (l : List Nat) : List Nat := l.flatMap fun d => if d == c then z else [d]
theorem putL_nil (c : Nat) (z : List Nat) : putL c z [] = [] := rfl
theorem putL_cons (c : Nat) (z : List Nat) (d : Nat) (l : List Nat) : putL c z (d :: l) = (if d == c then z else [d]) ++ putL c z l := by simp [putL]
theorem putL_append (c : Nat) (z a b : List Nat) : putL c z (a ++ b) = putL c z a ++ putL c z b := by simp [putL]
theorem putL_free (c : Nat) (z : List Nat) : ∀ l : List Nat, c ∉ l → putL c z l = l
  | [], _ => rfl
  | d :: l, h => by
    rw [putL_cons, putL_free c z l (fun x => h (.tail _ x)), show (d == c) = false by simp; rintro rfl; exact h (.head _)]
    simp
theorem putL_join (c : Nat) (z : Str) : ∀ parts : List Str, (∀ p ∈ parts, c ∉ p.cps.toList) → putL c z.cps.toList (Str.join ⟨#[c]⟩ parts).cps.toList = (Str.join z parts).cps.toList
  | [], _ => rfl
  | [p], h => putL_free c _ _ (h p (.head _))
  | p :: q :: r, h => by
    have e1 : Str.join ⟨#[c]⟩ (p :: q :: r) = p ++ ⟨#[c]⟩ ++ Str.join ⟨#[c]⟩ (q :: r) := rfl
    have e2 : Str.join z (p :: q :: r) = p ++ z ++ Str.join z (q :: r) := rfl
    rw [e1, e2]
    simp only [Str.cps_append, Array.toList_append, putL_append]
    rw [putL_join c z (q :: r) (fun p' hp => h p' (.tail _ hp)), putL_free c _ _ (h p (.head _))]
    simp [putL]
theorem replace_put (x z : Str) (c : Nat) : (Txt.replace x ⟨#[c]⟩ z).cps.toList = putL c z.cps.toList x.cps.toList := by
  rw [StrLaws.replace_one, ← putL_join c z _ (StrLaws.split_free x c), StrLaws.join_split]
theorem str_eq {a b : Str} (h : a.cps.toList = b.cps.toList) : a = b := by
  cases a; cases b; simp at h; simp [h]
theorem mk_toList (l : List Nat) : (⟨l.toArray⟩ : Str).cps.toList = l := rfl
theorem app_toList (a b : Str) : (a ++ b).cps.toList = a.cps.toList ++ b.cps.toList := by rw [Str.cps_append]; simp
theorem len_eq (x : Str) : x.length = x.cps.toList.length := by simp [Str.length]
end St
end Mine
end
section
open PySem PySem.W PyProof.Rows
set_option linter.unusedSimpArgs false
set_option linter.unusedVariables false
namespace Mine
namespace Tk
open Sem (wp)
theorem runs_toks {M : Model} {Γ : Ctx} {p : Pos} {t : Sem Fin} {fs : List Frame} {s : Shared} {e : End} {s' : Shared} (h : Runs M Γ p t fs s e s') : s.toks ≤ s'.toks := by
  induction h <;> (try simp only [Shared.setGen] at *) <;> (try dsimp only at *) <;> omega
theorem wp_toks {α : Type} {M : Model} {Γ : Ctx} (t : Sem α) : ∀ {Q : α → Pos → Shared → Prop} {E : Value → Pos → Shared → Prop} {p : Pos} {s : Shared} (n : Nat), n ≤ s.toks → wp M Γ t Q E p s →
    wp M Γ t (fun a p' s' => Q a p' s' ∧ n ≤ s'.toks) (fun e p' s' => E e p' s' ∧ n ≤ s'.toks) p s := by
  induction t with
  | pure a => intro Q E p s n hn h; simp only [wp] at h ⊢; exact ⟨h, hn⟩
  | raise e => intro Q E p s n hn h; simp only [wp] at h ⊢; exact ⟨h, hn⟩
  | unsupported _ => intro Q E p s n hn h; simp only [wp] at h
  | finish _ => intro Q E p s n hn h; simp only [wp] at h
  | rule _ k ih => intro Q E p s n hn h; simp only [wp] at h ⊢; exact ih _ n hn h
  | «at» _ k ih => intro Q E p s n hn h; simp only [wp] at h ⊢; exact ih _ n hn h
  | load a _ k ih => intro Q E p s n hn h; simp only [wp] at h ⊢; obtain ⟨o, ho, h⟩ := h; exact ⟨o, ho, ih _ n hn h⟩
  | update a _ f k ih => intro Q E p s n hn h; simp only [wp] at h ⊢; exact ⟨h.1, ih _ n hn h.2⟩
  | loadIfAlive a k ih => intro Q E p s n hn h; simp only [wp] at h ⊢; exact ih _ n hn h
  | point _ k ih => intro Q E p s n hn h; simp only [wp] at h ⊢; exact ih _ n hn h
  | register _ _ => intro Q E p s n hn h; simp only [wp] at h
  | alloc o k ih => intro Q E p s n hn h; simp only [wp] at h ⊢; exact ih _ n hn h
  | fresh k ih => intro Q E p s n hn h; simp only [wp] at h ⊢; exact ih _ n (Nat.le_succ_of_le hn) h
  | ask k ih => intro Q E p s n hn h; simp only [wp] at h ⊢; exact ih _ n hn h
  | choose src m k ih => intro Q E p s n hn h; simp only [wp] at h ⊢; exact ⟨h.1, ih _ n hn h.2⟩
  | os q _ k ih => intro Q E p s n hn h; simp only [wp] at h ⊢; exact ih _ n hn h
  | call c hd _ _ k ih =>
    intro Q E p s n hn h
    simp only [wp] at h ⊢
    obtain ⟨r, s', hr, h⟩ := h
    exact ⟨r, s', hr, ih _ n (Nat.le_trans hn (runs_toks hr)) h⟩
  | handled own k ih => intro Q E p s n hn h; simp only [wp] at h ⊢; exact ih _ n hn h
  | genState g k ih => intro Q E p s n hn h; simp only [wp] at h ⊢; obtain ⟨st, h1, h⟩ := h; exact ⟨st, h1, ih _ n hn h⟩
  | newGen c k ih => intro Q E p s n hn h; simp only [wp] at h ⊢; exact ih _ n hn h
  | resume g r _ k ih =>
    intro Q E p s n hn h
    simp only [wp] at h ⊢
    obtain ⟨res, s', hw, h⟩ := h
    have : s.toks ≤ s'.toks := by
      unfold Wakes at hw
      split at hw
      · exact hw.elim
      · split at hw
        · obtain ⟨e₁, s₁, h1, _, _, rfl⟩ := hw
          have := runs_toks h1
          simpa [Shared.setGen] using this
        · obtain ⟨_, rfl⟩ := hw; exact Nat.le_refl _
        · obtain ⟨_, rfl⟩ := hw; exact Nat.le_refl _
      · obtain ⟨e₁, s₁, h1, _, _, rfl⟩ := hw
        have := runs_toks h1
        simpa [Shared.setGen] using this
      · obtain ⟨_, rfl⟩ := hw; exact Nat.le_refl _
      · obtain ⟨_, rfl⟩ := hw; exact Nat.le_refl _
    exact ⟨res, s', hw, ih _ n (Nat.le_trans hn this) h⟩
  | yield _ _ _ _ => intro Q E p s n hn h; simp only [wp] at h
  | stack k ih => intro Q E p s n hn h; simp only [wp] at h ⊢; exact ih _ n hn h
  | fork _ _ => intro Q E p s n hn h; simp only [wp] at h
  | thread k ih => intro Q E p s n hn h; simp only [wp] at h ⊢; exact ih _ n hn h
  | await _ _ _ _ _ => intro Q E p s n hn h; simp only [wp] at h
/-- tokens only grow: what comes behind a step may lean on it -/
theorem grown {α : Type} {M : Model} {A : Around} {t : Sem α} {Q : α → Shared → Prop} {E : Value → Shared → Prop} {s : Shared} (h : wpAny M A t (fun a s' => s.toks ≤ s'.toks → Q a s') E s) : wpAny M A t Q E s :=
  fun Γ p hΓ => Sem.wp_mono M Γ t (fun a p' s' x => x.1 x.2) (fun e p' s' x => x.1) p s (wp_toks t s.toks (Nat.le_refl _) (h Γ p hΓ))
theorem pos_step {α : Type} {M : Model} {A : Around} {t : Sem α} {Q : α → Shared → Prop} {E : Value → Shared → Prop} {s : Shared} (h0 : 0 < s.toks) (h : wpAny M A t (fun a s' => 0 < s'.toks → Q a s') E s) : wpAny M A t Q E s :=
  grown (wpAny_mono h (fun a s' x hs => x (Nat.lt_of_lt_of_le h0 hs)) (fun _ _ x => x))
end Tk
end Mine
end
section
open PySem PySem.W PyProof.Rows
set_option linter.unusedSimpArgs false
set_option linter.unusedVariables false
namespace Mine
namespace L2
open Rx Pa St

def dots (n : Nat) : List Nat := List.replicate n 46
def textOf (e : List Nat) : List Nat → Nat → List Nat
  | [], last => dots last
  | r :: rs, last => dots r ++ e ++ textOf e rs last
def IsEnd (e : List Nat) : Prop := e = [10] ∨ e = [13, 10] ∨ e = [13]
def grow (r : Nat) : Nat := if r = 0 then 0 else r + 1
abbrev Rw := List Nat × Nat
def txt (e : List Nat) (R : Rw) : Str := ⟨(textOf e R.1 R.2).toArray⟩
def sentR (R : Rw) : Rw := (R.1.map grow, grow R.2)
def cutR (s : Nat) : List Nat → Nat → Rw
  | [], last => ([], last / s)
  | r :: rs, last => if r % s = 0 then ((r / s) :: (cutR s rs last).1, (cutR s rs last).2) else ([], r / s)
def readR (R : Rw) : Rw := cutR 2 R.1 R.2

/-! quotedata on such texts -/
theorem crlf_dots (n : Nat) (l : List Nat) : crlfL (dots n ++ l) = dots n ++ crlfL l := by
  induction n with
  | zero => simp [dots]
  | succ n ih =>
    show crlfL (46 :: (dots n ++ l)) = 46 :: (dots n ++ crlfL l)
    rw [crlfL_plain (by decide), ih]
theorem textOf_head {e : List Nat} (he : e = [13]) : ∀ (rows : List Nat) (last : Nat) (r' : List Nat), textOf e rows last ≠ 10 :: r' := by
  intro rows last r' h
  subst he
  cases rows with
  | nil =>
    simp only [textOf] at h
    cases last with
    | zero => simp [dots] at h
    | succ n => simp [dots, List.replicate_succ] at h
  | cons r rs =>
    simp only [textOf] at h
    cases r with
    | zero => simp [dots] at h
    | succ n => simp [dots, List.replicate_succ] at h
theorem crlf_text {e : List Nat} (he : IsEnd e) : ∀ (rows : List Nat) (last : Nat), crlfL (textOf e rows last) = textOf [13, 10] rows last
  | [], last => by
    have := crlf_dots last []
    simp only [List.append_nil, textOf] at this ⊢
    rw [this]
    simp [crlfL]
  | r :: rs, last => by
    have ih := crlf_text he rs last
    simp only [textOf, List.append_assoc]
    rw [crlf_dots]
    congr 1
    rcases he with rfl | rfl | rfl
    · show crlfL (10 :: textOf [10] rs last) = _
      rw [crlfL_nl (by decide) (by intro h; cases h), ih]; rfl
    · show crlfL (13 :: 10 :: textOf [13, 10] rs last) = _
      rw [crlfL_crlf, ih]; rfl
    · show crlfL (13 :: textOf [13] rs last) = _
      rw [crlfL_nl (by decide) (fun _ => textOf_head rfl rs last), ih]; rfl
theorem dot_false_dots (n : Nat) (l : List Nat) (c : Nat) (hc : c ≠ 10) : dotL (c == 10) (dots n ++ l) = dots n ++ dotL false l := by
  have hc' : (c == 10) = false := by simpa using hc
  rw [hc']
  induction n with
  | zero => simp [dots]
  | succ n ih =>
    show dotL false (46 :: (dots n ++ l)) = 46 :: (dots n ++ dotL false l)
    rw [dotL]
    simpa using ih
theorem dot_dots (n : Nat) (l : List Nat) : dotL true (dots n ++ l) = dots (grow n) ++ dotL (n == 0) l := by
  cases n with
  | zero => simp [dots, grow]
  | succ n =>
    show dotL true (46 :: (dots n ++ l)) = _
    rw [dotL, dot_false_dots n l 46 (by decide)]
    simp [dots, grow, List.replicate_succ]
theorem dot_text : ∀ (rows : List Nat) (last : Nat), dotL true (textOf [13, 10] rows last) = textOf [13, 10] (rows.map grow) (grow last)
  | [], last => by
    have := dot_dots last []
    simp only [List.append_nil, textOf, List.map_nil] at this ⊢
    rw [this]
    simp [dotL]
  | r :: rs, last => by
    have ih := dot_text rs last
    simp only [textOf, List.append_assoc, List.map_cons]
    rw [dot_dots]
    congr 1
    show dotL _ (13 :: 10 :: textOf [13, 10] rs last) = 13 :: 10 :: _
    rw [dotL, dotL, ← ih]
    simp
theorem quote_txt {e : List Nat} (he : IsEnd e) (R : Rw) : quoteS (txt e R) = txt [13, 10] (sentR R) := by
  apply St.str_eq
  show dotL true (crlfL (textOf e R.1 R.2)) = textOf [13, 10] (R.1.map grow) (grow R.2)
  rw [crlf_text he, dot_text]

/-! one reading -/
def readS (x : Str) : Str := Txt.replace (parseS (Str.ofString "257 \"" ++ Txt.replace x (Str.ofString ".") (Str.ofString "\""))) (Str.ofString "\"") (Str.ofString ".")
theorem dot_is : Str.ofString "." = ⟨#[46]⟩ := by decide +kernel
theorem head_is : Str.ofString "257 \"" = ⟨#[50, 53, 55, 32, 34]⟩ := by decide +kernel

theorem slice_nat (x : Str) {a b : Nat} (hab : a ≤ b) (hb : b ≤ x.length) : Txt.slice x (some (a : Int)) (some (b : Int)) = ⟨((x.cps.toList.drop a).take (b - a)).toArray⟩ := by
  have := StrLaws.sliceText_plain (x := x) (i := (a : Int)) (j := (b : Int)) ⟨by omega, by omega, by rw [← len_eq]; omega⟩
  exact this.trans (by simp)
theorem head_ok (y : Str) : okS (Str.ofString "257 \"" ++ y) = false := by
  unfold okS
  have e : Txt.slice (Str.ofString "257 \"" ++ y) (some 3) (some 5) = Str.ofString " \"" := by
    have h5 : 5 ≤ (Str.ofString "257 \"" ++ y).length := by
      rw [Str.length_append, head_is]
      show 5 ≤ 5 + y.length
      omega
    have := slice_nat (Str.ofString "257 \"" ++ y) (a := 3) (b := 5) (by omega) h5
    refine this.trans ?_
    apply St.str_eq
    rw [app_toList, head_is, show Str.ofString " \"" = ⟨#[32, 34]⟩ by decide +kernel]
    simp
  rw [e]
  simp
theorem head_257 (y : Str) : (Txt.slice (Str.ofString "257 \"" ++ y) none (some 3) != Str.ofString "257") = false := by
  have e : Txt.slice (Str.ofString "257 \"" ++ y) none (some 3) = Str.ofString "257" := by
    have h5 : 3 ≤ (Str.ofString "257 \"" ++ y).length := by
      rw [Str.length_append, head_is]
      show 3 ≤ 5 + y.length
      omega
    have := StrLaws.sliceText_to (x := Str.ofString "257 \"" ++ y) (j := 3) ⟨by omega, by rw [← len_eq]; omega⟩
    refine (show Txt.slice _ _ _ = _ from this).trans ?_
    apply St.str_eq
    rw [app_toList, head_is, show Str.ofString "257" = ⟨#[50, 53, 55]⟩ by decide +kernel]
    simp
  rw [e]
  simp
theorem parse_head (y : Str) : (parseS (Str.ofString "257 \"" ++ y)).cps.toList = unqL y.cps.toList := by
  unfold parseS
  rw [head_ok]
  show unqL ((Str.ofString "257 \"" ++ y).cps.toList.drop 5) = _
  rw [app_toList, head_is]
  simp
def readL (l : List Nat) : List Nat := putL 34 [46] (unqL (putL 46 [34] l))
theorem readS_L (x : Str) : (readS x).cps.toList = readL x.cps.toList := by
  unfold readS readL
  rw [quote_is, dot_is, replace_put, parse_head, replace_put]

theorem unq_plain (l : List Nat) : ∀ e : List Nat, (∀ c ∈ e, c ≠ 34) → unqL (e ++ l) = e ++ unqL l
  | [], _ => rfl
  | c :: e, h => by
    show unqL (c :: (e ++ l)) = c :: (e ++ unqL l)
    rw [unqL_plain _ (h c (.head _)), unq_plain l e (fun d hd => h d (.tail _ hd))]
theorem unq_even (k : Nat) (l : List Nat) : unqL (List.replicate (2 * k) 34 ++ l) = List.replicate k 34 ++ unqL l := by
  induction k with
  | zero => simp
  | succ k ih =>
    rw [show 2 * (k + 1) = 2 * k + 1 + 1 by omega]
    show unqL (34 :: 34 :: (List.replicate (2 * k) 34 ++ l)) = 34 :: (List.replicate k 34 ++ unqL l)
    rw [unqL_two, ih]
theorem unq_odd (k : Nat) {d : Nat} (l : List Nat) (hd : d ≠ 34) : unqL (List.replicate (2 * k + 1) 34 ++ d :: l) = List.replicate k 34 := by
  rw [show List.replicate (2 * k + 1) 34 = List.replicate (2 * k) 34 ++ [34] by rw [List.replicate_succ']]
  rw [List.append_assoc, unq_even]
  show List.replicate k 34 ++ unqL (34 :: d :: l) = _
  rw [unqL_stop _ hd]; simp
theorem unq_all (n : Nat) : unqL (List.replicate n 34) = List.replicate (n / 2) 34 := by
  rcases Nat.mod_two_eq_zero_or_one n with h | h
  · have := unq_even (n / 2) []
    rw [show 2 * (n / 2) = n by omega] at this
    simpa [unqL] using this
  · have : List.replicate n 34 = List.replicate (2 * (n / 2)) 34 ++ [34] := by
      rw [← List.replicate_succ']; congr 1; omega
    rw [this, unq_even, unqL_last]; simp

theorem put_dots (n : Nat) : putL 46 [34] (dots n) = List.replicate n 34 := by
  induction n with
  | zero => rfl
  | succ n ih => show putL 46 [34] (46 :: dots n) = _; rw [putL_cons, ih]; rfl
theorem put_marks (n : Nat) : putL 34 [46] (List.replicate n 34) = dots n := by
  induction n with
  | zero => rfl
  | succ n ih => rw [List.replicate_succ, putL_cons, ih]; rfl
theorem end_free {e : List Nat} (he : IsEnd e) : 46 ∉ e ∧ 34 ∉ e ∧ ∃ d r, e = d :: r ∧ d ≠ 34 := by
  rcases he with rfl | rfl | rfl <;> refine ⟨by decide, by decide, _, _, rfl, by decide⟩
theorem put_text {e : List Nat} (he : IsEnd e) : ∀ (rows : List Nat) (last : Nat), putL 34 [46] (unqL (putL 46 [34] (textOf e rows last))) = textOf e (cutR 2 rows last).1 (cutR 2 rows last).2
  | [], last => by
    simp only [textOf, cutR]
    rw [put_dots, unq_all, put_marks]
  | r :: rs, last => by
    obtain ⟨h46, h34, d, r', ee, hd⟩ := end_free he
    have ih := put_text he rs last
    simp only [textOf, cutR, List.append_assoc]
    rw [putL_append, put_dots, putL_append, putL_free 46 _ e h46]
    by_cases h : r % 2 = 0
    · rw [if_pos h]
      simp only [textOf, List.append_assoc]
      have e2 := unq_even (r / 2) (e ++ putL 46 [34] (textOf e rs last))
      rw [show 2 * (r / 2) = r by omega] at e2
      rw [e2, unq_plain _ e (fun c hc => by rintro rfl; exact h34 hc), putL_append, put_marks, putL_append, putL_free 34 _ e h34, ih]
    · rw [if_neg h]
      simp only [textOf]
      have e2 := unq_odd (r / 2) (r' ++ putL 46 [34] (textOf e rs last)) hd
      rw [show 2 * (r / 2) + 1 = r by omega] at e2
      rw [ee]
      show putL 34 [46] (unqL (List.replicate r 34 ++ d :: (r' ++ putL 46 [34] (textOf (d :: r') rs last)))) = _
      rw [← ee, e2, put_marks]
theorem read_txt {e : List Nat} (he : IsEnd e) (R : Rw) : readS (txt e R) = txt e (readR R) := by
  apply St.str_eq
  rw [readS_L]
  exact put_text he R.1 R.2

/-! many -/
def iter {α : Type} (f : α → α) : Nat → α → α
  | 0, x => x
  | n + 1, x => f (iter f n x)
theorem iter_in {α : Type} (f : α → α) : ∀ (n : Nat) (x : α), iter f n (f x) = f (iter f n x)
  | 0, _ => rfl
  | n + 1, x => by show f (iter f n (f x)) = f (f (iter f n x)); rw [iter_in f n x]
theorem iter_add {α : Type} (f : α → α) (a b : Nat) (x : α) : iter f (a + b) x = iter f a (iter f b x) := by
  induction a with
  | zero => simp [iter]
  | succ a ih => rw [show a + 1 + b = (a + b) + 1 by omega]; show f _ = f _; rw [ih]
theorem end_crlf : IsEnd [13, 10] := .inr (.inl rfl)
theorem sent_txt {e : List Nat} (he : IsEnd e) (n : Nat) (R : Rw) : iter quoteS (n + 1) (txt e R) = txt [13, 10] (iter sentR (n + 1) R) := by
  induction n with
  | zero => exact quote_txt he R
  | succ n ih => show quoteS (iter quoteS (n + 1) (txt e R)) = txt [13, 10] (sentR (iter sentR (n + 1) R)); rw [ih, quote_txt end_crlf]
theorem reads_txt {e : List Nat} (he : IsEnd e) (n : Nat) (R : Rw) : iter readS n (txt e R) = txt e (iter readR n R) := by
  induction n with
  | zero => rfl
  | succ n ih => show readS (iter readS n (txt e R)) = txt e (readR (iter readR n R)); rw [ih, read_txt he]

def growBy (m r : Nat) : Nat := if r = 0 then 0 else r + m
theorem sent_iter : ∀ (m : Nat) (R : Rw), iter sentR m R = (R.1.map (growBy m), growBy m R.2)
  | 0, R => by
    have : growBy 0 = id := by funext r; simp only [growBy, id]; split <;> omega
    rw [this]; simp [iter]
  | m + 1, R => by
    show sentR (iter sentR m R) = _
    rw [sent_iter m R]
    have : ∀ r, grow (growBy m r) = growBy (m + 1) r := by
      intro r
      unfold grow growBy
      by_cases h : r = 0
      · simp [h]
      · rw [if_neg h, if_neg h, if_neg (by omega)]; omega
    unfold sentR
    simp only [List.map_map, this]
    congr 1
    apply List.map_congr_left
    intro r _
    exact this r

theorem cut_cut (s : Nat) (hs : 0 < s) : ∀ (rows : List Nat) (last : Nat), readR (cutR s rows last) = cutR (2 * s) rows last
  | [], last => by
    simp only [cutR, readR]
    rw [Nat.div_div_eq_div_mul, Nat.mul_comm]
  | r :: rs, last => by
    have ih := cut_cut s hs rs last
    unfold readR at ih
    have hdd : r / s / 2 = r / (2 * s) := by rw [Nat.div_div_eq_div_mul, Nat.mul_comm]
    have hmod : r % (2 * s) = r % s + s * (r / s % 2) := by rw [Nat.mul_comm 2 s, Nat.mod_mul]
    rw [cutR, cutR]
    by_cases h : r % s = 0
    · rw [if_pos h]
      unfold readR
      show cutR 2 (r / s :: (cutR s rs last).1) (cutR s rs last).2 = _
      rw [cutR]
      by_cases h2 : r / s % 2 = 0
      · rw [if_pos h2, if_pos (by rw [hmod, h, h2]; simp), ih, hdd]
      · have h21 : r / s % 2 = 1 := by omega
        rw [if_neg h2, if_neg (by rw [hmod, h, h21]; omega), hdd]
    · rw [if_neg h, if_neg (by rw [hmod]; omega)]
      unfold readR
      show cutR 2 [] (r / s) = _
      rw [cutR, hdd]
theorem reads_cut : ∀ (k : Nat) (R : Rw), iter readR k R = cutR (2 ^ k) R.1 R.2
  | 0, R => by
    have one : ∀ (rows : List Nat) (last : Nat), cutR 1 rows last = (rows, last) := by
      intro rows last
      induction rows with
      | nil => simp [cutR]
      | cons r rs ih => rw [cutR, ih]; simp [Nat.mod_one]
    show R = cutR 1 R.1 R.2
    rw [one]
  | k + 1, R => by
    show readR (iter readR k R) = _
    rw [reads_cut k R, cut_cut _ (Nat.two_pow_pos k), Nat.pow_succ, Nat.mul_comm]

def NoOne (R : Rw) : Prop := (∀ r ∈ R.1, r ≠ 1) ∧ R.2 ≠ 1
theorem cut_commute (a : Nat) : ∀ (rows : List Nat) (last : Nat), (∀ r ∈ rows, r ≠ 1) → last ≠ 1 →
    cutR 2 (rows.map (growBy (2 * a))) (growBy (2 * a) last) = ((cutR 2 rows last).1.map (growBy a), growBy a (cutR 2 rows last).2)
  | [], last, _, h => by
    simp only [cutR, List.map_nil]
    congr 1
    unfold growBy
    by_cases h0 : last = 0
    · simp [h0]
    · rw [if_neg h0, if_neg (by omega)]; omega
  | r :: rs, last, hr, h => by
    have ih := cut_commute a rs last (fun x hx => hr x (.tail _ hx)) h
    have h1 := hr r (.head _)
    rw [List.map_cons, cutR, cutR, ih]
    have hm : growBy (2 * a) r % 2 = r % 2 := by unfold growBy; split <;> omega
    have hd : growBy (2 * a) r / 2 = growBy a (r / 2) := by
      unfold growBy
      by_cases h0 : r = 0
      · simp [h0]
      · rw [if_neg h0, if_neg (by omega)]; omega
    rw [hm, hd]
    by_cases h2 : r % 2 = 0
    · rw [if_pos h2, if_pos h2]; rfl
    · rw [if_neg h2, if_neg h2]; rfl
theorem read_sent (a : Nat) (R : Rw) (h : NoOne R) : readR (iter sentR (2 * a) R) = iter sentR a (readR R) := by
  rw [sent_iter, sent_iter]
  exact cut_commute a R.1 R.2 h.1 h.2
theorem noOne_sent {f : Nat} (hf : 1 ≤ f) (R : Rw) : NoOne (iter sentR f R) := by
  rw [sent_iter]
  have : ∀ r, growBy f r ≠ 1 := by intro r; unfold growBy; split <;> omega
  refine ⟨fun r hr => ?_, this _⟩
  obtain ⟨q, _, rfl⟩ := List.mem_map.mp hr
  exact this q

/-! sizes -/
def Fits (n : Nat) (R : Rw) : Prop := R.1.length ≤ 4 ∧ (∀ r ∈ R.1, r ≤ n) ∧ R.2 ≤ n
theorem fits_len {e : List Nat} (he : IsEnd e) {n : Nat} {R : Rw} (h : Fits n R) : (txt e R).length ≤ 5 * n + 8 := by
  have hel : e.length ≤ 2 := by rcases he with rfl | rfl | rfl <;> decide
  have key : ∀ (rows : List Nat) (last : Nat), (∀ r ∈ rows, r ≤ n) → (textOf e rows last).length ≤ rows.length * (n + 2) + last := by
    intro rows last hr
    induction rows with
    | nil => simp [textOf, dots]
    | cons r rs ih =>
      have := ih (fun x hx => hr x (.tail _ hx))
      have := hr r (.head _)
      simp only [textOf, List.length_append, dots, List.length_replicate, List.length_cons]
      rw [Nat.add_mul]
      omega
  have := key R.1 R.2 h.2.1
  have h4 := h.1
  have h3 := h.2.2
  show (textOf e R.1 R.2).toArray.size ≤ _
  rw [List.size_toArray]
  have : R.1.length * (n + 2) ≤ 4 * (n + 2) := Nat.mul_le_mul_right _ h4
  omega
theorem fits_sent {n : Nat} {R : Rw} (h : Fits n R) : Fits (n + 1) (sentR R) := by
  have g : ∀ r, r ≤ n → grow r ≤ n + 1 := by intro r hr; unfold grow; split <;> omega
  refine ⟨by simpa [sentR] using h.1, fun r hr => ?_, g _ h.2.2⟩
  obtain ⟨q, hq, rfl⟩ := List.mem_map.mp hr
  exact g q (h.2.1 q hq)
theorem fits_iter {n : Nat} {R : Rw} (h : Fits n R) : ∀ m, Fits (n + m) (iter sentR m R)
  | 0 => h
  | m + 1 => fits_sent (fits_iter h m)
theorem fits_read {n : Nat} {R : Rw} (h : Fits n R) : Fits n (readR R) := by
  have key : ∀ (rows : List Nat) (last : Nat), (∀ r ∈ rows, r ≤ n) → last ≤ n → (cutR 2 rows last).1.length ≤ rows.length ∧ (∀ r ∈ (cutR 2 rows last).1, r ≤ n) ∧ (cutR 2 rows last).2 ≤ n := by
    intro rows last hr hl
    induction rows with
    | nil => simp [cutR]; omega
    | cons r rs ih =>
      have h1 := ih (fun x hx => hr x (.tail _ hx))
      have h2 := hr r (.head _)
      rw [cutR]
      split
      · refine ⟨by simpa using h1.1, fun x hx => ?_, h1.2.2⟩
        rcases List.mem_cons.mp hx with rfl | hx
        · omega
        · exact h1.2.1 x hx
      · refine ⟨by simp, ?_, ?_⟩
        · intro x hx
          cases hx
        · show r / 2 ≤ n
          omega
  have := key R.1 R.2 h.2.1 h.2.2
  exact ⟨Nat.le_trans this.1 h.1, this.2.1, this.2.2⟩

/-- a text as the law has them, of at most n dots a row -/
def Shp (n : Nat) (x : Str) : Prop := ∃ e R, IsEnd e ∧ Fits n R ∧ x = txt e R
theorem shp_len {n : Nat} {x : Str} (h : Shp n x) : x.length ≤ 5 * n + 8 := by
  obtain ⟨e, R, he, hf, rfl⟩ := h
  exact fits_len he hf
theorem shp_quote {n : Nat} {x : Str} (h : Shp n x) : Shp (n + 1) (quoteS x) := by
  obtain ⟨e, R, he, hf, rfl⟩ := h
  exact ⟨_, _, end_crlf, fits_sent hf, quote_txt he R⟩
theorem shp_read {n : Nat} {x : Str} (h : Shp n x) : Shp n (readS x) := by
  obtain ⟨e, R, he, hf, rfl⟩ := h
  exact ⟨_, _, he, fits_read hf, read_txt he R⟩
theorem shp_mono {n m : Nat} {x : Str} (h : Shp n x) (hm : n ≤ m) : Shp m x := by
  obtain ⟨e, R, he, hf, rfl⟩ := h
  exact ⟨e, R, he, ⟨hf.1, fun r hr => Nat.le_trans (hf.2.1 r hr) hm, Nat.le_trans hf.2.2 hm⟩, rfl⟩
theorem shp_quotes {n : Nat} {x : Str} (h : Shp n x) : ∀ m, Shp (n + m) (iter quoteS m x)
  | 0 => h
  | m + 1 => shp_quote (shp_quotes h m)
theorem shp_reads {n : Nat} {x : Str} (h : Shp n x) : ∀ m, Shp n (iter readS m x)
  | 0 => h
  | m + 1 => shp_read (shp_reads h m)
end L2
end Mine
end
section
open PySem PySem.W PyProof.Rows
set_option linter.unusedSimpArgs false
set_option linter.unusedVariables false
namespace Mine
namespace L2
open Rx Pa St

/-! the figures -/
def figsOf (n : Int) : List Int := if n = 1 then [1] else if n = 2 then [2] else if n = 3 then [1, 1] else if n = 4 then [2, 1] else if n = 5 then [1, 2] else if n = 6 then [2, 2] else if n = 7 then [1, 1, 1] else if n = 8 then [2, 1, 1] else []
def FInv (N number : Int) (figs : List Int) : Prop := 0 ≤ number ∧ number ≤ 8 ∧ figs ++ figsOf number = figsOf N
theorem eight {n : Int} (h0 : 0 ≤ n) (h8 : n ≤ 8) : n = 0 ∨ n = 1 ∨ n = 2 ∨ n = 3 ∨ n = 4 ∨ n = 5 ∨ n = 6 ∨ n = 7 ∨ n = 8 := by omega
theorem figs_step {n : Int} (h0 : 0 < n) (h8 : n ≤ 8) : figsOf n = (2 - n.fmod 2) :: figsOf ((n - (2 - n.fmod 2)).fdiv 2) ∧ (2 - n.fmod 2 = 1 ∨ 2 - n.fmod 2 = 2) ∧ n = (2 - n.fmod 2) + 2 * ((n - (2 - n.fmod 2)).fdiv 2) ∧ 0 ≤ (n - (2 - n.fmod 2)).fdiv 2 ∧ (n - (2 - n.fmod 2)).fdiv 2 ≤ 8 := by
  rcases eight (Int.le_of_lt h0) h8 with rfl | rfl | rfl | rfl | rfl | rfl | rfl | rfl | rfl <;> first | omega | decide
theorem figs_len {n : Int} : (figsOf n).length ≤ 3 := by
  unfold figsOf
  repeat' split
  all_goals decide
theorem figs_pos {n : Int} (h0 : 0 < n) (h8 : n ≤ 8) : 0 < (figsOf n).length := by
  rw [(figs_step h0 h8).1]; simp
theorem figs_nil {n : Int} (h0 : 0 ≤ n) (h8 : n ≤ 8) (h : figsOf n = []) : n = 0 := by
  rcases Int.lt_or_eq_of_le h0 with x | x
  · have := figs_pos x h8
    rw [h] at this
    simp at this
  · exact x.symm
theorem f_start {N : Int} (h0 : 1 ≤ N) (h8 : N ≤ 8) : FInv N N [] ∧ 0 ≤ N ∧ N ≤ 8 ∧ ([] : List Int).length ≤ 3 := ⟨⟨by omega, h8, rfl⟩, by omega, h8, by simp⟩
theorem f_turn {N n : Int} {figs : List Int} (h : FInv N n figs) (h0 : 0 < n) :
    FInv N ((n - (2 - n.fmod 2)).fdiv 2) (figs ++ [2 - n.fmod 2]) ∧ 0 ≤ (n - (2 - n.fmod 2)).fdiv 2 ∧ (n - (2 - n.fmod 2)).fdiv 2 ≤ 8 ∧ (figs ++ [2 - n.fmod 2]).length ≤ 3 := by
  obtain ⟨h1, h2, h3⟩ := h
  obtain ⟨e, _, _, h4, h5⟩ := figs_step h0 h2
  have h6 : figs ++ [2 - n.fmod 2] ++ figsOf ((n - (2 - n.fmod 2)).fdiv 2) = figsOf N := by rw [← h3, e]; simp
  refine ⟨⟨h4, h5, h6⟩, h4, h5, ?_⟩
  have := figs_len (n := N)
  rw [← h6, List.length_append] at this
  omega
theorem f_less {n : Int} (h0 : 0 < n) (h8 : n ≤ 8) : ((n - (2 - n.fmod 2)).fdiv 2).toNat < n.toNat := by
  rcases eight (Int.le_of_lt h0) h8 with rfl | rfl | rfl | rfl | rfl | rfl | rfl | rfl | rfl <;> first | omega | decide
theorem f_end {N n : Int} {figs : List Int} (h : FInv N n figs) (h0 : ¬ 0 < n) : figs = figsOf N := by
  obtain ⟨h1, h2, h3⟩ := h
  have : n = 0 := by omega
  subst this
  simpa [figsOf] using h3

/-! the rows -/
def RowOk (r : Int) : Prop := r = 0 ∨ (2 ≤ r ∧ r ≤ 40)
theorem row_ok {N k : Int} {len : Nat} (h1 : 1 ≤ len) (h3 : len ≤ 3) :
    RowOk (if k.fmod 4 = 0 then 0 else if k.fmod 4 = 1 then 2 + (k.fdiv 4).fmod 15 else (-2 * N).fmod (2 ^ len) + 2 ^ len * (1 + (k.fdiv 4).fmod 2)) := by
  unfold RowOk
  split
  · exact .inl rfl
  · right
    have e15 : (k.fdiv 4).fmod 15 = (k.fdiv 4) % 15 := Int.fmod_eq_emod_of_nonneg _ (by omega)
    have e2 : (k.fdiv 4).fmod 2 = (k.fdiv 4) % 2 := Int.fmod_eq_emod_of_nonneg _ (by omega)
    split
    · rw [e15]; omega
    · have hl : len = 1 ∨ len = 2 ∨ len = 3 := by omega
      rw [e2]
      rcases hl with rfl | rfl | rfl
      · rw [Int.fmod_eq_emod_of_nonneg _ (by decide)]
        omega
      · rw [Int.fmod_eq_emod_of_nonneg _ (by decide)]
        omega
      · rw [Int.fmod_eq_emod_of_nonneg _ (by decide)]
        omega

/-! signs and ends -/
def dotsS (n : Int) : Str := ⟨(dots n.toNat).toArray⟩
theorem dotsS_nat (n : Nat) : (dotsS (n : Int)).cps.toList = dots n := by
  unfold dotsS
  rw [Int.toNat_natCast]
theorem dotsS_len (n : Int) : (dotsS n).length = n.toNat := by
  show (dots n.toNat).toArray.size = _
  simp [dots]
def endS (S : Int) : Str := [Str.ofString "\n", Str.ofString "\x0d\n", Str.ofString "\x0d"].getD S.toNat Str.empty
theorem endS_ok {S : Int} (h0 : 0 ≤ S) (h3 : S < 3) : ∃ e, IsEnd e ∧ endS S = ⟨e.toArray⟩ := by
  have : S = 0 ∨ S = 1 ∨ S = 2 := by omega
  rcases this with rfl | rfl | rfl
  · exact ⟨[10], .inl rfl, by decide +kernel⟩
  · exact ⟨[13, 10], .inr (.inl rfl), by decide +kernel⟩
  · exact ⟨[13], .inr (.inr rfl), by decide +kernel⟩
/-- an end of rows -/
def EndOk (en : Str) : Prop := ∃ e, IsEnd e ∧ en = ⟨e.toArray⟩
theorem endOk_len {en : Str} (h : EndOk en) : en.length ≤ 2 := by
  obtain ⟨e, he, ee⟩ := h
  rw [ee]
  rcases he with rfl | rfl | rfl <;> decide
theorem endS_len {S : Int} (h0 : 0 ≤ S) (h3 : S < 3) : (endS S).length ≤ 2 := by
  obtain ⟨e, he, ee⟩ := endS_ok h0 h3
  rw [ee]
  rcases he with rfl | rfl | rfl <;> decide

/-! the told text -/
def toldL (N s : Nat) (rs : List Int) : Rw := cutR s (rs.map fun r => growBy (2 * N) r.toNat) 0
def toldS (N s : Nat) (rs : List Int) : Str := txt [13, 10] (toldL N s rs)
/-- the rows taken so far leave no rest -/
def TInv (N s : Nat) (pre : List Int) (text : Str) : Prop :=
  (∀ r ∈ pre, growBy (2 * N) r.toNat % s = 0) ∧ text = ⟨(textOf [13, 10] (pre.map fun r => growBy (2 * N) r.toNat / s) 0).toArray⟩
theorem textOf_append (e : List Nat) : ∀ (a b : List Nat) (last : Nat), textOf e (a ++ b) last = textOf e a 0 ++ textOf e b last
  | [], b, last => by simp [textOf, dots]
  | r :: a, b, last => by
    show dots r ++ e ++ textOf e (a ++ b) last = dots r ++ e ++ textOf e a 0 ++ textOf e b last
    rw [textOf_append e a b last]
    simp
theorem cutR_append (s : Nat) : ∀ (a b : List Nat) (last : Nat), (∀ r ∈ a, r % s = 0) → cutR s (a ++ b) last = (a.map (· / s) ++ (cutR s b last).1, (cutR s b last).2)
  | [], b, last, _ => by simp
  | r :: a, b, last, h => by
    show cutR s (r :: (a ++ b)) last = _
    rw [cutR, if_pos (h r (.head _)), cutR_append s a b last (fun x hx => h x (.tail _ hx))]
    simp
theorem t_start {N s : Nat} : TInv N s [] (Str.ofString "") := ⟨(by intro r h; cases h), (by show Str.ofString "" = ⟨(textOf [13, 10] [] 0).toArray⟩; decide +kernel)⟩
theorem t_go {N s : Nat} {pre : List Int} {r : Int} {text : Str} (h : TInv N s pre text) (hr : growBy (2 * N) r.toNat % s = 0) :
    TInv N s (pre ++ [r]) (text ++ dotsS (growBy (2 * N) r.toNat / s : Nat) ++ Str.ofString "\x0d\n") := by
  obtain ⟨h1, h2⟩ := h
  refine ⟨fun x hx => ?_, ?_⟩
  · rcases List.mem_append.mp hx with hx | hx
    · exact h1 x hx
    · rw [List.mem_singleton.mp hx]; exact hr
  · apply St.str_eq
    rw [app_toList, app_toList, h2, List.map_append, mk_toList, mk_toList, textOf_append, show Str.ofString "\x0d\n" = ⟨#[13, 10]⟩ by decide +kernel, dotsS_nat]
    simp [textOf, dots]
theorem t_stop {N s : Nat} {pre post rs : List Int} {r : Int} {text : Str} (h : TInv N s pre text) (e : rs = pre ++ r :: post) (hr : growBy (2 * N) r.toNat % s ≠ 0) :
    text ++ dotsS (growBy (2 * N) r.toNat / s : Nat) = toldS N s rs := by
  obtain ⟨h1, h2⟩ := h
  apply St.str_eq
  rw [app_toList, h2, dotsS_nat]
  show _ = textOf [13, 10] (toldL N s rs).1 (toldL N s rs).2
  unfold toldL
  rw [e, List.map_append, List.map_cons, cutR_append s _ _ _ (by
    intro x hx
    obtain ⟨q, hq, rfl⟩ := List.mem_map.mp hx
    exact h1 q hq)]
  rw [cutR, if_neg hr]
  simp only [List.append_nil, List.map_map, mk_toList]
  have := textOf_append [13, 10] (pre.map fun r => growBy (2 * N) r.toNat / s) [] (growBy (2 * N) r.toNat / s)
  rw [List.append_nil] at this
  rw [show ((fun x => x / s) ∘ fun r => growBy (2 * N) r.toNat) = (fun r : Int => growBy (2 * N) r.toNat / s) from rfl, this]
  simp [textOf]
theorem t_end {N s : Nat} {rs : List Int} {text : Str} (h : TInv N s rs text) : text = toldS N s rs := by
  obtain ⟨h1, h2⟩ := h
  rw [h2]
  unfold toldS txt toldL
  have := cutR_append s (rs.map fun r => growBy (2 * N) r.toNat) [] 0 (by
    intro x hx
    obtain ⟨q, hq, rfl⟩ := List.mem_map.mp hx
    exact h1 q hq)
  rw [List.append_nil] at this
  rw [this]
  simp [cutR]
  rfl
theorem t_len {N s : Nat} {pre : List Int} {text : Str} (h : TInv N s pre text) (hs : 1 ≤ s) (hN : N ≤ 8) (hp : ∀ r ∈ pre, RowOk r) (hl : pre.length ≤ 4) : text.length ≤ 300 := by
  obtain ⟨h1, h2⟩ := h
  rw [h2]
  have := fits_len (e := [13, 10]) end_crlf (n := 56) (R := (pre.map fun r => growBy (2 * N) r.toNat / s, 0)) ⟨by simpa using hl, fun x hx => by
    obtain ⟨q, hq, rfl⟩ := List.mem_map.mp hx
    have hq' := hp q hq
    unfold RowOk at hq'
    refine Nat.le_trans (Nat.div_le_self _ _) ?_
    unfold growBy
    split <;> omega, by omega⟩
  exact Nat.le_trans this (by omega)

/-! the rounds -/
def MInv (figs : List Int) (told text : Str) (left : Int) (p : Nat) : Prop :=
  ∃ e R TR, IsEnd e ∧ (0 < p → e = [13, 10]) ∧ text = txt e R ∧ told = txt [13, 10] TR ∧ NoOne R ∧ Fits (100 + 2 * p) R ∧ 0 ≤ left ∧ left ≤ 8 ∧ figs.drop p = figsOf left ∧
    iter readR (figs.length - p) (iter sentR (2 * left.toNat) R) = TR
theorem m_shp {figs : List Int} {told text : Str} {left : Int} {p : Nat} (h : MInv figs told text left p) (hp : p ≤ 3) : Shp 4000 text := by
  obtain ⟨e, R, TR, he, _, ht, _, _, hf, _⟩ := h
  exact shp_mono ⟨e, R, he, hf, ht⟩ (by omega)
theorem m_left {figs : List Int} {told text : Str} {left : Int} {p : Nat} (h : MInv figs told text left p) : 0 ≤ left ∧ left ≤ 8 := by
  obtain ⟨_, _, _, _, _, _, _, _, _, h1, h2, _⟩ := h
  exact ⟨h1, h2⟩
theorem m_head {figs : List Int} {told text : Str} {left : Int} {p : Nat} (h : MInv figs told text left p) (hp : p < figs.length) : 0 < left ∧ figs.getD p 0 = 2 - left.fmod 2 := by
  obtain ⟨e, R, TR, he, h0, ht, htd, hno, hf, hl0, hl8, hd, hr⟩ := h
  have hpos : 0 < left := by
    rcases Int.lt_or_eq_of_le hl0 with x | x
    · exact x
    · rw [← x] at hd
      have : (figs.drop p).length = 0 := by rw [hd]; decide
      rw [List.length_drop] at this
      omega
  refine ⟨hpos, ?_⟩
  have e1 := (figs_step hpos hl8).1
  rw [e1, List.drop_eq_getElem_cons hp] at hd
  simp only [List.cons.injEq] at hd
  rw [List.getD_eq_getElem?_getD, List.getElem?_eq_getElem hp]
  exact hd.1
theorem m_told {figs : List Int} {told text : Str} {left : Int} {p : Nat} (h : MInv figs told text left p) (hp : p < figs.length) : iter readS (figs.length - p) (iter quoteS (2 * left).toNat text) = told := by
  have hpos := (m_head h hp).1
  obtain ⟨e, R, TR, he, h0, ht, htd, hno, hf, hl0, hl8, hd, hr⟩ := h
  rw [ht, htd, ← hr, show (2 * left).toNat = (2 * left.toNat - 1) + 1 by omega, sent_txt he, reads_txt end_crlf]
  rw [show 2 * left.toNat - 1 + 1 = 2 * left.toNat by omega]
theorem m_turn {figs : List Int} {told text : Str} {left : Int} {p : Nat} (h : MInv figs told text left p) (hp : p < figs.length) :
    MInv figs told (iter quoteS (figs.getD p 0).toNat (iter readS 1 text)) ((left - figs.getD p 0).fdiv 2) (p + 1) := by
  obtain ⟨hpos, hf0⟩ := m_head h hp
  obtain ⟨e, R, TR, he, h0, ht, htd, hno, hf, hl0, hl8, hd, hr⟩ := h
  obtain ⟨e1, e2, e3, e4, e5⟩ := figs_step hpos hl8
  rw [hf0]
  have hdrop : figs.drop (p + 1) = figsOf ((left - (2 - left.fmod 2)).fdiv 2) := by
    rw [e1, List.drop_eq_getElem_cons hp] at hd
    simp only [List.cons.injEq] at hd
    exact hd.2
  obtain ⟨f, hfe⟩ : ∃ f : Nat, (2 - left.fmod 2).toNat = f + 1 := ⟨(2 - left.fmod 2).toNat - 1, by omega⟩
  refine ⟨[13, 10], iter sentR (f + 1) (readR R), TR, end_crlf, fun _ => rfl, ?_, htd, noOne_sent (by omega) _, ?_, e4, e5, hdrop, ?_⟩
  · rw [hfe, ht]
    show iter quoteS (f + 1) (readS (txt e R)) = _
    rw [read_txt he, sent_txt he]
  · have := fits_iter (fits_read hf) (f + 1)
    have hf2 : f + 1 ≤ 2 := by omega
    exact ⟨this.1, fun r hr => Nat.le_trans (this.2.1 r hr) (by omega), Nat.le_trans this.2.2 (by omega)⟩
  · rw [← iter_add, ← hr]
    obtain ⟨k, hk⟩ : ∃ k, figs.length - p = k + 1 := ⟨figs.length - p - 1, by omega⟩
    rw [hk, show figs.length - (p + 1) = k by omega]
    show _ = readR (iter readR k _)
    rw [← iter_in readR k, read_sent _ _ hno]
    congr 2
    omega
theorem m_end {figs : List Int} {told text : Str} {left : Int} (h : MInv figs told text left figs.length) (hp : 0 < figs.length) : text = told := by
  obtain ⟨e, R, TR, he, h0, ht, htd, hno, hf, hl0, hl8, hd, hr⟩ := h
  rw [List.drop_length] at hd
  have := figs_nil hl0 hl8 hd.symm
  subst this
  rw [ht, htd, ← hr, h0 hp]
  simp [iter]
theorem m_start {N : Int} {en : Str} {rs : List Int} {figs : List Int} (h1 : 1 ≤ N) (h8 : N ≤ 8) (hf : figs = figsOf N) (hr : ∀ r ∈ rs, RowOk r) (hl : rs.length ≤ 4) (hen : EndOk en) :
    MInv figs (toldS N.toNat (2 ^ figs.length) rs) (Rx.glue (rs.map fun r => dotsS r ++ en)) N 0 := by
  obtain ⟨e, he, ee⟩ := hen
  refine ⟨e, (rs.map Int.toNat, 0), _, he, fun h => absurd h (by omega), ?_, rfl, ?_, ?_, by omega, h8, by rw [hf]; rfl, ?_⟩
  · apply St.str_eq
    rw [ee]
    show (rs.map fun r => dotsS r ++ ⟨e.toArray⟩).flatMap (·.cps.toList) = textOf e (rs.map Int.toNat) 0
    clear hr hl
    induction rs with
    | nil => simp [textOf, dots]
    | cons r rs ih =>
      rw [List.map_cons, List.flatMap_cons, ih, app_toList, List.map_cons]
      simp [textOf, dotsS]
  · refine ⟨fun r hr' => ?_, by show (0 : Nat) ≠ 1; decide⟩
    obtain ⟨q, hq, rfl⟩ := List.mem_map.mp hr'
    have := hr q hq
    unfold RowOk at this
    omega
  · refine ⟨by simpa using hl, fun r hr' => ?_, by show (0 : Nat) ≤ _; omega⟩
    obtain ⟨q, hq, rfl⟩ := List.mem_map.mp hr'
    have := hr q hq
    unfold RowOk at this
    omega
  · rw [sent_iter, reads_cut]
    unfold toldL
    rw [Nat.sub_zero, List.map_map]
    rfl
end L2
end Mine
end
section
open PySem PySem.W PyProof.Rows
set_option linter.unusedSimpArgs false
set_option linter.unusedVariables false
namespace Mine
namespace L2
open Rx Pa St
theorem f_len {S n : Int} {figs : List Int} (h : FInv (1 + S.fmod 8) n figs) (h0 : ¬ 0 < n) : 1 ≤ ((figs.length : Nat) : Int).toNat ∧ ((figs.length : Nat) : Int).toNat ≤ 3 := by
  have e := f_end h h0
  have h1 := fmod_lo S (n := 8) (by decide)
  have h2 := fmod_hi S (n := 8) (by decide)
  have h3 := figs_pos (n := 1 + S.fmod 8) (by omega) (by omega)
  have h4 := figs_len (n := 1 + S.fmod 8)
  rw [← e] at h3 h4
  omega
/-- the words of the told loop, over ints -/
def TW (N s : Int) (pre : List Int) (text : Str) : Prop := TInv N.toNat s.toNat pre text
theorem pow_nat (k : Nat) : ((2 : Int) ^ k) = ((2 ^ k : Nat) : Int) := by
  induction k with
  | zero => rfl
  | succ k ih => rw [Int.pow_succ, Nat.pow_succ, ih]; push_cast; rfl
theorem grow_int {row N : Int} (hr : RowOk row) (hN : 0 ≤ N) (h0 : row ≠ 0) : ((growBy (2 * N.toNat) row.toNat : Nat) : Int) = row + 2 * N := by
  unfold RowOk at hr
  unfold growBy
  rw [if_neg (by omega)]
  omega
theorem grow_zero (N : Nat) : growBy (2 * N) (0 : Int).toNat = 0 := rfl
theorem div_int {a : Nat} {x : Int} {k : Nat} (e : (a : Int) = x) : x.fdiv (2 ^ k) = ((a / (2 ^ k : Nat) : Nat) : Int) ∧ x.fmod (2 ^ k) = ((a % (2 ^ k : Nat) : Nat) : Int) := by
  subst e
  rw [pow_nat, Int.fdiv_eq_ediv_of_nonneg _ (Int.natCast_nonneg _), Int.fmod_eq_emod_of_nonneg _ (Int.natCast_nonneg _)]
  exact ⟨by push_cast; rfl, by push_cast; rfl⟩
theorem pow_toNat (k : Nat) : ((2 : Int) ^ k).toNat = 2 ^ k := by rw [pow_nat, Int.toNat_natCast]
theorem w_start {N s : Int} : TW N s [] (Str.ofString "") ∧ (Str.ofString "").length ≤ 300 := ⟨t_start, by decide +kernel⟩
theorem w_go {N row : Int} {k : Nat} {pre rs post : List Int} {text : Str} (h : TW N (2 ^ k) pre text) (hN : 0 ≤ N) (hN8 : N ≤ 8) (hr : ∀ r ∈ rs, RowOk r) (e : rs = pre ++ row :: post) (hl : rs.length ≤ 4) (h0 : row ≠ 0) (hm : (row + 2 * N).fmod (2 ^ k) = 0) :
    TW N (2 ^ k) (pre ++ [row]) (text ++ dotsS ((row + 2 * N).fdiv (2 ^ k)) ++ Str.ofString "\x0d\n") ∧ (text ++ dotsS ((row + 2 * N).fdiv (2 ^ k)) ++ Str.ofString "\x0d\n").length ≤ 300 := by
  have hrow : RowOk row := hr row (by rw [e]; simp)
  obtain ⟨e1, e2⟩ := div_int (k := k) (grow_int hrow hN h0)
  unfold TW at h ⊢
  rw [pow_toNat] at h ⊢
  rw [e2] at hm
  rw [e1]
  have := t_go (r := row) h (by omega)
  refine ⟨this, t_len this (Nat.one_le_two_pow) (by omega) (fun r hr' => hr r (by rw [e]; rcases List.mem_append.mp hr' with x | x <;> simp [x]; simp at x; simp [x])) ?_⟩
  rw [e] at hl
  simp at hl ⊢
  omega
theorem w_go0 {N : Int} {k : Nat} {pre rs post : List Int} {text : Str} (h : TW N (2 ^ k) pre text) (hN8 : N ≤ 8) (hr : ∀ r ∈ rs, RowOk r) (e : rs = pre ++ 0 :: post) (hl : rs.length ≤ 4) :
    TW N (2 ^ k) (pre ++ [0]) (text ++ dotsS ((0 : Int).fdiv (2 ^ k)) ++ Str.ofString "\x0d\n") ∧ (text ++ dotsS ((0 : Int).fdiv (2 ^ k)) ++ Str.ofString "\x0d\n").length ≤ 300 := by
  unfold TW at h ⊢
  rw [pow_toNat] at h ⊢
  have e1 : (0 : Int).fdiv (2 ^ k) = ((growBy (2 * N.toNat) (0 : Int).toNat / 2 ^ k : Nat) : Int) := by rw [grow_zero]; simp
  rw [e1]
  have := t_go (r := 0) h (by rw [grow_zero]; simp)
  refine ⟨this, t_len this (Nat.one_le_two_pow) (by omega) (fun r hr' => hr r (by rw [e]; rcases List.mem_append.mp hr' with x | x <;> simp [x]; simp at x; simp [x])) ?_⟩
  rw [e] at hl
  simp at hl ⊢
  omega
theorem w_stop {N row : Int} {k : Nat} {pre rs post : List Int} {text : Str} (h : TW N (2 ^ k) pre text) (hN : 0 ≤ N) (hr : ∀ r ∈ rs, RowOk r) (e : rs = pre ++ row :: post) (h0 : row ≠ 0) (hm : (row + 2 * N).fmod (2 ^ k) ≠ 0) :
    text ++ dotsS ((row + 2 * N).fdiv (2 ^ k)) = toldS N.toNat (2 ^ k) rs := by
  have hrow : RowOk row := hr row (by rw [e]; simp)
  obtain ⟨e1, e2⟩ := div_int (k := k) (grow_int hrow hN h0)
  unfold TW at h
  rw [pow_toNat] at h
  rw [e2] at hm
  rw [e1]
  exact t_stop h e (by omega)
theorem w_bnd {row S : Int} {k : Nat} (hr : RowOk row) : 0 ≤ (row + 2 * (1 + S.fmod 8)).fdiv (2 ^ k) ∧ (row + 2 * (1 + S.fmod 8)).fdiv (2 ^ k) ≤ 1000 := by
  have h1 := fmod_lo S (n := 8) (by decide)
  have h2 := fmod_hi S (n := 8) (by decide)
  obtain ⟨a, ha⟩ : ∃ a : Nat, (a : Int) = row + 2 * (1 + S.fmod 8) := by
    unfold RowOk at hr
    exact ⟨(row + 2 * (1 + S.fmod 8)).toNat, by omega⟩
  rw [(div_int ha).1]
  have h5 := Nat.div_le_self a (2 ^ k)
  generalize a / 2 ^ k = d at h5
  unfold RowOk at hr
  omega
theorem w_bnd0 {k : Nat} : 0 ≤ (0 : Int).fdiv (2 ^ k) ∧ (0 : Int).fdiv (2 ^ k) ≤ 1000 := by simp
/-! the rounds' start -/
theorem m_begin {S n : Int} {figs rs cs : List Int} {en told : Str} (hF : FInv (1 + S.fmod 8) n figs) (h0 : ¬ 0 < n) (hr : ∀ r ∈ rs, RowOk r) (hl : rs.length = cs.length) (hc : cs.length = 4) (hen : EndOk en)
    (ht : told = toldS (1 + S.fmod 8).toNat (2 ^ ((figs.length : Nat) : Int).toNat) rs) : MInv figs told (glue (rs.map fun k => dotsS k ++ en)) (1 + S.fmod 8) ([] : List Int).length := by
  have h1 := fmod_lo S (n := 8) (by decide)
  have h2 := fmod_hi S (n := 8) (by decide)
  rw [ht, Int.toNat_natCast]
  exact m_start (by omega) (by omega) (f_end hF h0) hr (by omega) hen
theorem m_begin_end {S n : Int} {figs rs cs : List Int} {en text : Str} (hF : FInv (1 + S.fmod 8) n figs) (h0 : ¬ 0 < n) (hr : ∀ r ∈ rs, RowOk r) (hl : rs.length = cs.length) (hc : cs.length = 4) (hen : EndOk en)
    (ht : TW (1 + S.fmod 8) (2 ^ ((figs.length : Nat) : Int).toNat) rs text) : MInv figs text (glue (rs.map fun k => dotsS k ++ en)) (1 + S.fmod 8) ([] : List Int).length := by
  unfold TW at ht
  rw [pow_toNat] at ht
  exact m_begin hF h0 hr hl hc hen (t_end ht)
theorem m_begin_stop {S n row : Int} {figs rs cs pre post : List Int} {en text : Str} (hF : FInv (1 + S.fmod 8) n figs) (h0 : ¬ 0 < n) (hr : ∀ r ∈ rs, RowOk r) (hl : rs.length = cs.length) (hc : cs.length = 4) (hen : EndOk en)
    (ht : TW (1 + S.fmod 8) (2 ^ ((figs.length : Nat) : Int).toNat) pre text) (e : rs = pre ++ row :: post) (hrow : row ≠ 0) (hm : (row + 2 * (1 + S.fmod 8)).fmod (2 ^ ((figs.length : Nat) : Int).toNat) ≠ 0) :
    MInv figs (text ++ dotsS ((row + 2 * (1 + S.fmod 8)).fdiv (2 ^ ((figs.length : Nat) : Int).toNat))) (glue (rs.map fun k => dotsS k ++ en)) (1 + S.fmod 8) ([] : List Int).length := by
  have h1 := fmod_lo S (n := 8) (by decide)
  exact m_begin hF h0 hr hl hc hen (w_stop ht (by omega) hr e hrow hm)
theorem pre_sent {figs : List Int} {told text : Str} {left : Int} {p : Nat} (h : MInv figs told text left p) (hp : p ≤ 3) : Shp 4000 text ∧ 0 ≤ 2 * left ∧ 2 * left ≤ 64 := by
  have := m_left h
  exact ⟨m_shp h hp, by omega, by omega⟩
theorem pre_read1 {figs : List Int} {told text : Str} {left : Int} {p : Nat} (h : MInv figs told text left p) (hp : p ≤ 3) : Shp 4000 text ∧ (0 : Int) ≤ 1 ∧ (1 : Int) ≤ 64 := ⟨m_shp h hp, by decide, by decide⟩
theorem m_shp2 {figs : List Int} {told text : Str} {left : Int} {p : Nat} (h : MInv figs told text left p) (hp : p ≤ 3) : Shp 4000 (iter quoteS (2 * left).toNat text) := by
  have hl := m_left h
  obtain ⟨e, R, TR, he, _, ht, _, _, hf, _⟩ := h
  exact shp_mono (shp_quotes ⟨e, R, he, hf, ht⟩ _) (by omega)
theorem pre_read2 {figs : List Int} {told text : Str} {left : Int} {p : Nat} {k : Int} (h : MInv figs told text left p) (hp : p ≤ 3) (h0 : 0 ≤ k) (h1 : k ≤ 64) : Shp 4000 (iter quoteS (2 * left).toNat text) ∧ 0 ≤ k ∧ k ≤ 64 := ⟨m_shp2 h hp, h0, h1⟩
theorem pre_sent2 {figs : List Int} {told text : Str} {left : Int} {p : Nat} {f : Int} (h : MInv figs told text left p) (hp : p ≤ 3) (hp' : p < figs.length) (hf : f = figs.getD p 0) : Shp 4000 (iter readS (1 : Int).toNat text) ∧ 0 ≤ f ∧ f ≤ 64 := by
  have hh := m_head h hp'
  have h2 : 2 - left.fmod 2 = 1 ∨ 2 - left.fmod 2 = 2 := (figs_step hh.1 (m_left h).2).2.1
  rw [hh.2] at hf
  exact ⟨shp_reads (m_shp h hp) _, by omega, by omega⟩
theorem m_same {figs : List Int} {told text : Str} {left k : Int} {p : Nat} (h : MInv figs told text left p) (hp : p < figs.length) (hk : k = (figs.length : Int) - (p : Int)) : (iter readS k.toNat (iter quoteS (2 * left).toNat text) != told) = false := by
  have : k.toNat = figs.length - p := by omega
  rw [this, m_told h hp]
  simp
end L2
end Mine
end
section
open PySem PySem.W PyProof.Rows PySem.Builtin PySem.Builtin.Str
set_option linter.unusedSimpArgs false
set_option linter.unusedVariables false
namespace Mine
open Rx Pa L2 Tk
section
variable {prog : Program} {w : World} {A : Around} {E : Value → Shared → Prop} {s : Shared} {Q : Value → Shared → Prop}
theorem replace_le (x y z : PySem.Str) : (Txt.replace x y z).length ≤ x.length + (x.length + 1) * z.length := by
  unfold Txt.replace
  split
  · omega
  · have h1 := StrLaws.occ_length_le x y 0 x.length (x.length + 1)
    have hy : (glued y (partsBetween x (occurrences x y 0 x.length (x.length + 1)) y.length)).length = x.length := by rw [StrLaws.glued_between_self]
    rw [size_glued, length_partsBetween, Nat.add_sub_cancel] at hy
    rw [size_glued, length_partsBetween, Nat.add_sub_cancel]
    have h2 : (occurrences x y 0 x.length (x.length + 1)).length * z.length ≤ (x.length + 1) * z.length := Nat.mul_le_mul_right _ h1
    omega
theorem replaceP {x y z : PySem.Str} {t u v : Tok} (b : Nat) (hz : z.length ≤ b) (hu : @Ne Nat u 0) (hv : @Ne Nat v 0) (huv : @Ne Nat u v) (hyz : (y == z) = false) (hb : x.length + (x.length + 1) * b ≤ 16777216)
    (h : ∀ (t' : Tok) (k : Nat), s.toks ≤ k → (Txt.replace x y z).length ≤ x.length + (x.length + 1) * b → Q (.str (Txt.replace x y z) t') { s with toks := k }) :
    wpAny (model prog w) A (call (.builtin "str.replace") [.str x t, .str y u, .str z v]) Q E s := by
  have h1 : (x.length + 1) * z.length ≤ (x.length + 1) * b := Nat.mul_le_mul_left _ hz
  refine grown (SC.replace hu hv huv hyz (by omega) (fun t' k hk => h t' k hk ?_))
  have := replace_le x y z
  omega
theorem addP {x y : PySem.Str} {t u : Tok} (a : Nat) (hx : x.length ≤ a) (hb : a + y.length ≤ 16777216)
    (h : ∀ (t' : Tok) (k : Nat), s.toks ≤ k → (x ++ y).length = x.length + y.length → (x ++ y).length ≤ a + y.length → Q (.str (x ++ y) t') { s with toks := k }) :
    wpAny (model prog w) A (binaryOp .Add (.str x t) (.str y u)) Q E s := by
  have e := Str.length_append x y
  exact grown (SBL.add (fun t' k _ hk => h t' k hk e (by omega)) (by rw [sizeLine_eq]; omega))
end
theorem use_c {prog : Program} {w : World} {K : Frag} {p : Program} {loose : List PySem.Str} {mean : ExcName → Option Value} {mg mb : PySem.Str → Option Value} {f : Addr} {news : List (Addr × Obj)} {pre : Prop} {vs : List Value} {R : Tok → Value}
    (C : CbClaim prog w K p loose mean mg mb f news [] pre vs R)
    {dp un : Nat} {gd : Option (List Code)} {cn : PySem.Str} {cs : Scope} {a : Addr} {ccd : Value} {cl : List (PySem.Str × Addr)} {outer : List Env} {A₀ : Around} {base h₀ : Heap} {L : Addr} {m : PySem.Str → Option Value} {s : Shared} {Q E : Value → Shared → Prop}
    (B : Below A₀ base outer h₀) (F : Fr h₀ L s.heap m) (X : K.In h₀) (N : News h₀ L s.heap news) (T : Top p loose mean mg mb h₀) (hk : cs.kind = .function) (hp : pre) (hd : dp + 1 < recursionLimit) (hu : un + 8 < cLine)
    (ret : ∀ (t : Tok) (h' : Heap) (tk' : Nat), s.toks ≤ tk' → Fr h₀ L h' m → News h₀ L h' news → Q (R t) { s with heap := h', toks := tk' }) :
    wpAny (model prog w) (ktrTop dp un gd cn cs L a ccd cl outer) (call (.ref f) vs) Q E s := grown (C _ _ _ _ _ _ _ _ _ _ _ _ _ _ _ _ _ B F X N T hk hp hd hu (fun t h' tk' F' N' hs => ret t h' tk' hs F' N'))
/-- a contract with room for calls within -/
abbrev CC (prog : Program) (w : World) (K : Frag) (p : Program) (loose : List PySem.Str) (mean : ExcName → Option Value) (mg mb : PySem.Str → Option Value) (f : Addr) (pre : Prop) (vs : List Value) (R : Tok → Value) : Prop :=
  ∀ (news : List (Addr × Obj)) (dp un : Nat) (gd : Option (List Code)) (cn : PySem.Str) (cs : Scope) (a : Addr) (ccd : Value) (cl : List (PySem.Str × Addr)) (outer : List Env) (A₀ : Around) (base h₀ : Heap) (L : Addr) (m : PySem.Str → Option Value) (s : Shared) (Q E : Value → Shared → Prop),
    Below A₀ base outer h₀ → Fr h₀ L s.heap m → K.In h₀ → News h₀ L s.heap news → Top p loose mean mg mb h₀ → cs.kind = .function →
    pre → dp + 8 < recursionLimit → un + 64 < cLine → (∀ (t : Tok) (h' : Heap) (tk' : Nat), Fr h₀ L h' m → News h₀ L h' news → Q (R t) { s with heap := h', toks := tk' }) →
      wpAny (model prog w) (ktrTop dp un gd cn cs L a ccd cl outer) (call (.ref f) vs) Q E s
theorem use_cc {prog : Program} {w : World} {K : Frag} {p : Program} {loose : List PySem.Str} {mean : ExcName → Option Value} {mg mb : PySem.Str → Option Value} {f : Addr} {pre : Prop} {vs : List Value} {R : Tok → Value}
    (C : CC prog w K p loose mean mg mb f pre vs R) {news : List (Addr × Obj)}
    {dp un : Nat} {gd : Option (List Code)} {cn : PySem.Str} {cs : Scope} {a : Addr} {ccd : Value} {cl : List (PySem.Str × Addr)} {outer : List Env} {A₀ : Around} {base h₀ : Heap} {L : Addr} {m : PySem.Str → Option Value} {s : Shared} {Q E : Value → Shared → Prop}
    (B : Below A₀ base outer h₀) (F : Fr h₀ L s.heap m) (X : K.In h₀) (N : News h₀ L s.heap news) (T : Top p loose mean mg mb h₀) (hk : cs.kind = .function) (hp : pre) (hd : dp + 8 < recursionLimit) (hu : un + 64 < cLine)
    (ret : ∀ (t : Tok) (h' : Heap) (tk' : Nat), s.toks ≤ tk' → Fr h₀ L h' m → News h₀ L h' news → Q (R t) { s with heap := h', toks := tk' }) :
    wpAny (model prog w) (ktrTop dp un gd cn cs L a ccd cl outer) (call (.ref f) vs) Q E s := grown (C _ _ _ _ _ _ _ _ _ _ _ _ _ _ _ _ _ _ B F X N T hk hp hd hu (fun t h' tk' F' N' hs => ret t h' tk' hs F' N'))
theorem one_len : (PySem.Str.ofString "\"").length ≤ 1 := by decide +kernel
theorem dot_len : (PySem.Str.ofString ".").length ≤ 1 := by decide +kernel
theorem two_len : (PySem.Str.ofString "\"\"").length ≤ 2 := by decide +kernel
theorem head_len : (PySem.Str.ofString "257 \"").length ≤ 5 := by decide +kernel
end Mine
end
section
open PySem PySem.W PyProof.Rows PySem.Builtin PySem.Builtin.Str
set_option linter.unusedSimpArgs false
set_option linter.unusedVariables false
namespace Mine
open Rx Pa L2 Tk
section
variable {prog : Program} {w : World} {A : Around} {E : Value → Shared → Prop} {s : Shared} {h₀ : Heap} {L a b : Addr} {m : PySem.Str → Option Value} {news : List (Addr × Obj)} {vs ws zs : List Value} {ns ms : List Int} {Q : Value → Shared → Prop}
/-- a list of ints glued of two, of which the length alone is kept -/
theorem add_abs (n : Nat) (F : Fr h₀ L s.heap m) (N : News h₀ L s.heap news) (ha : s.heap.IsList a vs.toArray) (hb : s.heap.IsList b ws.toArray) (hi : IntsAre vs ns) (hj : IntsAre ws ms) (hl : ns.length + ms.length = n) (hn : n ≤ 1000)
    (h : ∀ D us h' (cs : List Int), cs.length = n → Fr h₀ L h' m → News h₀ L h' ((D, listOf (List.toArray us) 0) :: news) → (∀ p ∈ news, p.1 < D) → IntsAre us cs → Q (.ref D) { s with heap := h' }) :
    wpAny (model prog w) A (binaryOp .Add (.ref a) (.ref b)) Q E s :=
  kmk_add_ints F N ha hb hi hj (fun D us h' F' N' l hI => h D us h' (ns ++ ms) (by rw [List.length_append]; exact hl) F' N' l hI) (by rw [sizeLine_eq]; omega)
theorem sumA {l : Addr} (hh : A.handled = none) (F : Fr h₀ L s.heap m) (N : News h₀ L s.heap news) (hl : s.heap.IsList l vs.toArray) (hi : IntsAre vs ns)
    (h : ∀ (S : Int) h' tk t', Fr h₀ L h' m → News h₀ L h' news → Q (.int S t') { s with heap := h', toks := tk }) :
    wpAny (model prog w) A (call (.builtin "sum") [.ref l]) Q E s := sumK hh F N hl hi (fun h' tk t' F' N' => h ns.sum h' tk t' F' N')
theorem lenA {l : Addr} (hl : s.heap.IsList l vs.toArray) (hi : IntsAre vs ns) (hn : ns.length ≤ 1000000) (h : ∀ (t' : Tok) (k : Nat), s.toks ≤ k → Q (.int (ns.length : Int) t') { s with toks := k }) :
    wpAny (model prog w) A (call (.builtin "len") [.ref l]) Q E s := by
  have e := hi.length
  refine len_list hl (by rw [List.size_toArray]; omega) ?_
  rw [List.size_toArray, e]
  exact h _ _ (by omega)
theorem slice_tail {value slice : PySem.Expr} {l : Addr} {k : Int} {u : Tok} (F : Fr h₀ L s.heap m) (N : News h₀ L s.heap news) (hl : s.heap.IsList l vs.toArray) (hi : IntsAre vs ns) (h0 : 0 ≤ k) (hk : k ≤ (ns.length : Int)) (hn : ns.length ≤ 1000)
    (hs : subscripted slice false (.ref l) (.ref s.heap.objs.size) = operate [.ref s.heap.objs.size, .ref l] (getItem (.ref l) (.ref s.heap.objs.size))) (ht : ∀ r, letTemporaryGo value (.ref l) r = pure ())
    (h : ∀ D ws h' (ms : List Int), (ms.length : Int) = (ns.length : Int) - k → Fr h₀ L h' m → News h₀ L h' ((D, listOf (List.toArray ws) 0) :: news) → (∀ p ∈ news, p.1 < D) → IntsAre ws ms → Q (.ref D) { s with heap := h' }) :
    wpAny (model prog w) A (subscriptTail value slice (.ref l) (.ref s.heap.objs.size)) Q E { s with heap := s.heap.push { cls := .type "slice", data := .fields #[.int k u, .none, .none] } } := by
  have e := hi.length
  refine kmk_slice_ints (ms := ns.drop k.toNat) F N hl (IsPart.int _ _) IsPart.none hi ?_ rfl (fun D ws h' F' N' l1 hI _ _ => h D ws h' (ns.drop k.toNat) ?_ F' N' l1 hI) hs ht (by rw [List.size_toArray, sizeLine_eq]; omega)
  · rw [kms_pick_eq]
    unfold kms_pick
    have e1 : kms_lo (some k) vs.toArray.toList.length = k.toNat := by
      show (if k < 0 then vs.toArray.toList.length - (-k).toNat else min k.toNat vs.toArray.toList.length) = _
      rw [if_neg (by omega), List.toList_toArray]
      omega
    have e2 : kms_hi none vs.toArray.toList.length = vs.length := by simp [kms_hi]
    rw [e1, e2]
    have : (List.drop k.toNat vs.toArray.toList).length ≤ vs.length - k.toNat := by simp
    rw [List.take_of_length_le this]
    simpa using hi.drop k.toNat
  · rw [List.length_drop]
    omega
theorem item_end {value slice : PySem.Expr} {l : Addr} {S : Int} {u : Tok} (hl : s.heap.IsList l vs.toArray) (hw : StrsAre vs [PySem.Str.ofString "\n", PySem.Str.ofString "\x0d\n", PySem.Str.ofString "\x0d"])
    (hs : subscripted slice false (.ref l) (.int (S.fmod 3) u) = operate [.ref l, .int (S.fmod 3) u] (getItem (.ref l) (.int (S.fmod 3) u)))
    (h : ∀ (t' : Tok) (en : PySem.Str), EndOk en → en.length ≤ 2 → Q (.str en t') s) :
    wpAny (model prog w) A (subscriptTail value slice (.ref l) (.int (S.fmod 3) u)) Q E s := by
  have h0 := fmod_lo S (n := 3) (by decide)
  have h3 := fmod_hi S (n := 3) (by decide)
  refine KTb.item_list hl hw h0 (by show S.fmod 3 < 3; exact h3) (by omega) (fun t' _ => ?_) hs
  have e : EndOk (endS (S.fmod 3)) := endS_ok h0 h3
  exact h t' _ e (endOk_len e)
theorem pow_ne (k : Nat) : (2 : Int) ^ k ≠ 0 := by rw [pow_nat]; exact Int.natCast_ne_zero.mpr (Nat.pos_iff_ne_zero.mp (Nat.two_pow_pos k))
theorem modz {b : Int} {t u : Tok} (hb : b ≠ 0) (h : Q (.int 0 s.toks) { s with toks := s.toks + 1 }) : wpAny (model prog w) A (binaryOp .Mod (.int 0 t) (.int b u)) Q E s :=
  mod_int' hb (by rw [Int.zero_fmod]; exact h)
theorem mul_dots (n : Int) : Txt.mul (PySem.Str.ofString ".") n = dotsS n := by
  rw [dot_is]
  unfold Txt.mul dotsS dots
  split
  · rw [show n.toNat = 0 by omega]; rfl
  · split
    · have : n = 1 := by
        rename_i h
        rcases Bool.or_eq_true_iff.mp h with x | x
        · simpa using x
        · exact absurd x (by decide)
      subst this; rfl
    · have key : ∀ (k : Nat) (acc : Array Nat), ((List.replicate k (#[46] : Array Nat)).foldl (· ++ ·) acc).toList = acc.toList ++ List.replicate k 46 := by
        intro k
        induction k with
        | zero => intro acc; simp
        | succ k ih => intro acc; rw [List.replicate_succ, List.foldl_cons, ih, List.replicate_succ]; simp
      apply St.str_eq
      show ((List.replicate n.toNat (#[46] : Array Nat)).foldl (· ++ ·) #[]).toList = _
      rw [key]
      simp
theorem mulP {n : Int} {t u : Tok} (h0 : 0 ≤ n) (h1 : n ≤ 100000) (h : ∀ (t' : Tok) (k : Nat), s.toks ≤ k → (dotsS n).length = n.toNat → (dotsS n).length ≤ 100000 → Q (.str (dotsS n) t') { s with toks := k }) :
    wpAny (model prog w) A (binaryOp .Mult (.str (PySem.Str.ofString ".") t) (.int n u)) Q E s := by
  refine grown (SB.mul (mulOk_of 16 1048576 (Nat.le_trans dot_len (by decide)) (by omega) (by omega) (by decide) (by decide)) (fun t' k hk => ?_))
  rw [mul_dots]
  exact h t' k hk (dotsS_len n) (by rw [dotsS_len]; omega)
theorem iaddP {x y : PySem.Str} {t u : Tok} (a b : Nat) (hx : x.length ≤ a) (hy : y.length ≤ b) (hb : a + b ≤ 16777216)
    (h : ∀ (t' : Tok) (k : Nat), s.toks ≤ k → (x ++ y).length ≤ a + b → Q (.str (x ++ y) t') { s with toks := k }) :
    wpAny (model prog w) A (inplaceOp .Add (.str x t) (.str y u)) Q E s := by
  have e := Str.length_append x y
  exact grown (SBL.iadd (fun t' k _ hk => h t' k hk (by omega)) (by rw [sizeLine_eq]; omega))
theorem crlf_len : (PySem.Str.ofString "\x0d\n").length ≤ 2 := by decide +kernel
theorem strs_of {β : Type} {g : β → PySem.Str} : ∀ {ys : List Value} {l : List β}, CarriedAll ys (l.map fun a => PyData.str (g a)) → StrsAre ys (l.map g)
  | ys, [], h => by cases h; exact .nil
  | ys, x :: l, h => by
    cases h with
    | cons h1 h2 =>
      cases h1
      exact .cons _ _ (strs_of h2)
theorem empty_is : PySem.Str.ofString "" = ⟨#[]⟩ := by decide +kernel
theorem joinP {β : Type} {g : β → PySem.Str} {l : List β} {D : Addr} {t : Tok} {ys : List Value} (B : Nat) (hl : s.heap.IsList D ys.toArray) (hc : CarriedAll ys (l.map fun a => PyData.str (g a))) (hB : ∀ x ∈ l, (g x).length ≤ B) (hn : l.length * B ≤ 16777216)
    (h : ∀ (t' : Tok) (k : Nat), s.toks ≤ k → Q (.str (glue (l.map g)) t') { s with toks := k }) : wpAny (model prog w) A (call (.builtin "str.join") [.str (PySem.Str.ofString "") t, .ref D]) Q E s := by
  rw [empty_is]
  refine grown (join_list (ys := l.map g) hl (strs_of hc) ?_ (fun t' k hk => ?_))
  · have e0 : (⟨#[]⟩ : PySem.Str).length = 0 := rfl
    rw [e0, Nat.mul_zero, Nat.add_zero, List.map_map]
    have : ∀ l' : List β, (∀ x ∈ l', (g x).length ≤ B) → (l'.map ((fun x => x.length) ∘ g)).sum ≤ l'.length * B := by
      intro l' hl'
      induction l' with
      | nil => simp
      | cons x l' ih =>
        have h1 := ih (fun y hy => hl' y (.tail _ hy))
        have h2 := hl' x (.head _)
        simp only [List.map_cons, List.sum_cons, List.length_cons, Function.comp]
        rw [Nat.add_mul]
        have : (l'.map ((fun x => x.length) ∘ g)).sum = (l'.map (fun x => (g x).length)).sum := rfl
        omega
    exact Nat.le_trans (this l hB) hn
  · rw [join_nil_eq]
    exact h t' k hk
end
theorem kpf_abs {ks : List Int} {g : Int → Int} {R : Int → Prop} {Fin : List Value → List (Addr × Obj) → Prop} {news : List (Addr × Obj)} (hR : ∀ k ∈ ks, R (g k))
    (h : KPfDone (∀ (ys : List Value) (rs : List Int), IntsAre ys rs → rs.length = ks.length → (∀ r ∈ rs, R r) → Fin ys news)) : KPfDone (∀ ys, IntsAre ys (ks.map g) → Fin ys news) := by
  unfold KPfDone at h ⊢
  exact fun ys hI => h ys _ hI (by simp) (fun r hr => by obtain ⟨k, hk, rfl⟩ := List.mem_map.mp hr; exact hR k hk)
theorem kpf_len {ks : List Int} {g : Int → Int} (n : Nat) {Fin : List Value → List (Addr × Obj) → Prop} {news : List (Addr × Obj)} (hn : ks.length ≤ n)
    (h : KPfDone (∀ (ys : List Value) (rs : List Int), IntsAre ys rs → rs.length ≤ n → Fin ys news)) : KPfDone (∀ ys, IntsAre ys (ks.map g) → Fin ys news) := by
  unfold KPfDone at h ⊢
  exact fun ys hI => h ys _ hI (by simpa using hn)
section
variable {prog : Program} {w : World} {A : Around} {h₀ : Heap} {L : Addr} {m : PySem.Str → Option Value} {env : Env} {elt : PySem.Expr} {x : PySem.Str} {scope : Scope} {cl : List (PySem.Str × Addr)} {s : Shared} {S : List (Addr × Obj) → Prop} {Fin : List Value → List (Addr × Obj) → Prop} {news : List (Addr × Obj)}
theorem kct_rows {vs : List Value} {ns : List Int} {en : PySem.Str} (hen : EndOk en) (hi : IntsAre vs ns)
    (turn : ∀ k t I oI C oC D m₂ ys h tk (E' : Value → Shared → Prop), k ∈ ns → LCg.NsObj oC m₂ → m₂ x = some (.int k t) → Fr h₀ L h m → News h₀ L h ((I, oI) :: (C, oC) :: (D, LCg.lst ys) :: news) → LCg.Off3 I C D news → ((@Ne Nat I C) ∧ (@Ne Nat I D) ∧ (@Ne Nat C D)) → KPfMark →
      wpAny (model prog w) A (eval elt (compEnvC scope cl C env)) (LCg.CompEnd h₀ L m { s with heap := h, toks := tk } I oI C oC D (LCg.lst ys) S (fun y news' => KCtEl news (dotsS k ++ en) y news')) E' { s with heap := h, toks := tk })
    (fin : KPfDone (∀ ys, CarriedAll ys (ns.map fun k => PyData.str (dotsS k ++ en)) → ns.length = vs.toArray.size → Fin ys news)) : LCg.CompRest prog w A h₀ L m env elt x scope cl s S (fun i v => vs.toArray[i]? = some v) Fin vs.toArray.size 0 [] news :=
  kct_list (fun k => dotsS k ++ en) hi turn fin
theorem kct_end {I C D : Addr} {s₁ : Shared} {oI oC oD : Obj} {h' : Heap} {tk : Nat} {r : PySem.Str} {t : Tok} (F : Fr h₀ L h' m) (N : News h₀ L h' ((I, oI) :: (C, oC) :: (D, oD) :: news)) (off : LCg.Off3 I C D news) (hS : S news) :
    LCg.CompEnd h₀ L m s₁ I oI C oC D oD S (fun y news' => KCtEl news r y news') (.str r t) { s₁ with heap := h', toks := tk } := LCg.CompEnd.intro F N news (fun p hp => hp) off hS ⟨rfl, t, rfl⟩
end
/-- a turn's end under k_state where the ledger is as it was -/
theorem kst_endS {σ : Type} {h₀ : Heap} {x : PySem.Str} {Led : σ → List (Addr × Obj)} {ps : σ → List (PySem.Str × Value)} {Facts : σ → Prop} {stored : List PySem.Str} {m₀ : PySem.Str → Option Value} {P : List Int → σ → Prop} {pre : List Int} (c : σ) {L : Addr} {m' : PySem.Str → Option Value} {own : List (Addr × Obj)} {adr : List Addr} {s₁ : Shared} {h' : Heap} {tk : Nat}
    (F : Fr h₀ L h' m') (N : News h₀ L h' (Led c ++ own)) (ha : (Led c).map (·.1) = adr) (hf : Facts c) (hk : ∀ p ∈ ps c, m' p.1 = some p.2) (hr : ∀ z, z ≠ x → (∀ p ∈ ps c, z ≠ p.1) → stored.contains z = false → m' z = m₀ z) (hp : P pre c) :
    InvEndN h₀ L (KstS Led ps Facts x stored m₀ P pre) own adr s₁ { s₁ with heap := h', toks := tk } :=
  kst_end c F N (fun p hp => List.mem_append_left _ hp) (fun p hp => List.mem_append_right _ hp) ha hf hk hr hp
end Mine
end
section
open PySem PySem.W PyProof.Rows
set_option maxRecDepth 100000
set_option maxHeartbeats 8000000
namespace Mine
open Rx
theorem pat1 {w : World} {h₀ : Heap} (X : (Mine.hd.heap_39 w.params).In h₀) : IsPat h₀ 68 c1 :=
  ⟨_, _, 67, _, _, _, _, X 68 _ (by rfl), rfl, rfl, rfl, X 67 _ (by rfl), rfl, by decide +kernel⟩
theorem pat2 {w : World} {h₀ : Heap} (X : (Mine.hd.heap_39 w.params).In h₀) : IsPat h₀ 73 c2 :=
  ⟨_, _, 72, _, _, _, _, X 73 _ (by rfl), rfl, rfl, rfl, X 72 _ (by rfl), rfl, by decide +kernel⟩
section
variable {prog : Program} {w : World} {A : Around} {E : Value → Shared → Prop} {s : Shared} {h₀ : Heap} {L : Addr} {m : Str → Option Value} {news : List (Addr × Obj)} {x : Str} {t tr : Tok} {pl : Sem Bool}
theorem meth1 {Q : Value × List Value → Shared → Prop} (F : Fr h₀ L s.heap m) (X : (Mine.hd.heap_39 w.params).In h₀) (h : Q (.builtin "re.Pattern.sub", [.ref 68]) s) : wpAny (model prog w) A (getMethod (.ref 68) "sub" pl) Q E s :=
  getMethod_sub ((pat1 X).keeps F.keep) h
theorem meth2 {Q : Value × List Value → Shared → Prop} (F : Fr h₀ L s.heap m) (X : (Mine.hd.heap_39 w.params).In h₀) (h : Q (.builtin "re.Pattern.sub", [.ref 73]) s) : wpAny (model prog w) A (getMethod (.ref 73) "sub" pl) Q E s :=
  getMethod_sub ((pat2 X).keeps F.keep) h
theorem csub1 {Q : Value → Shared → Prop} (F : Fr h₀ L s.heap m) (X : (Mine.hd.heap_39 w.params).In h₀) (N : News h₀ L s.heap news) (hx : x.length ≤ 1000000)
    (h : ∀ h' tk t', Fr h₀ L h' m → News h₀ L h' news → Q (.str (dotS x) t') { s with heap := h', toks := tk }) :
    wpAny (model prog w) A (call (.builtin "re.Pattern.sub") ([.ref 68] ++ [.str (Str.ofString "..") tr, .str x t])) Q E s :=
  sub1 hx ((pat1 X).keeps F.keep) (fun h' tk t' hk => h h' tk t' (F.keeps hk) (fun p hp => ⟨hk _ _ (N p hp).1, (N p hp).2⟩))
theorem csub2 {Q : Value → Shared → Prop} (F : Fr h₀ L s.heap m) (X : (Mine.hd.heap_39 w.params).In h₀) (N : News h₀ L s.heap news) (hx : x.length ≤ 1000000)
    (h : ∀ h' tk t', Fr h₀ L h' m → News h₀ L h' news → Q (.str (crlfS x) t') { s with heap := h', toks := tk }) :
    wpAny (model prog w) A (call (.builtin "re.Pattern.sub") ([.ref 73] ++ [.str (Str.ofString "\x0d\n") tr, .str x t])) Q E s :=
  sub2 hx ((pat2 X).keeps F.keep) (fun h' tk t' hk => h h' tk t' (F.keeps hk) (fun p hp => ⟨hk _ _ (N p hp).1, (N p hp).2⟩))
end
theorem crlf_fits {x : Str} (h : x.length ≤ 400000) : (crlfS x).length ≤ 1000000 := by
  have := crlfL_length x.cps.toList
  have e : x.cps.toList.length = x.length := by simp [Str.length]
  show (crlfL x.cps.toList).toArray.size ≤ _
  rw [List.size_toArray]
  omega
theorem some_fits {x : Str} (h : x.length ≤ 400000) : x.length ≤ 1000000 := by omega
local macro_rules | `(tactic| walk_at "getMethod ref") => `(tactic| (k_here; (with_reducible show wpAny _ _ (getMethod (Value.ref _) (PySem.Str.ofString "sub") _) _ _ _); k_dflt (first
  | (refine' meth1 ?k1 ?k2 ?_; (case k1 => k_asm); (case k2 => k_asm); k_whole)
  | (refine' meth2 ?k1 ?k2 ?_; (case k1 => k_asm); (case k2 => k_asm); k_whole))))
local macro_rules | `(tactic| walk_at "call builtin:re.Pattern.sub") => `(tactic| (k_here; k_dflt (first
  | (refine' csub1 ?k1 ?k2 ?k3 ?k4 ?_; (case k1 => k_asm); (case k2 => k_asm); (case k3 => k_asm); (case k4 => first | exact crlf_fits (by assumption) | exact some_fits (by assumption)); k_whole; intro h' tk' t' F' N'; (try k_sweep))
  | (refine' csub2 ?k1 ?k2 ?k3 ?k4 ?_; (case k1 => k_asm); (case k2 => k_asm); (case k3 => k_asm); (case k4 => first | exact crlf_fits (by assumption) | exact some_fits (by assumption)); k_whole; intro h' tk' t' F' N'; (try k_sweep)))))
theorem quotedata_c (w : World) (mean : ExcName → Option Value) (mg mb : Str → Option Value) (news : List (Addr × Obj)) (x : Str) (t : Tok) :
    CbClaim PySem.Challenge.rw_pg0022_01.row.prog w (Mine.hd.heap_39 w.params) Mine.hd.view_39 (looseW Mine.hd.view_39 [Str.ofString "_twin_re_1", Str.ofString "_twin_re_2"]) mean mg mb 80 news [] (x.length ≤ 400000) [.str x t] (fun t => .str (quoteS x) t) := by
  w_top off
  k_with_none
  k_fill
  dsimp only [CbClaim, CbLists, CbRet]; intros; rename_i hret
  refine wpAny_call ?_
  k_dflt cell_enter
  k_steps
  all_goals cb_end hret
end Mine
end
section
open PySem PySem.W PyProof.Rows
set_option maxRecDepth 100000
set_option maxHeartbeats 8000000
namespace Mine
open Pa
theorem parse257_c (w : World) (mean : ExcName → Option Value) (mg mb : Str → Option Value) (news : List (Addr × Obj)) (x : Str) (t : Tok) :
    CbClaim PySem.Challenge.rw_pg0022_01.row.prog w (Mine.hd.heap_39 w.params) Mine.hd.view_39 (looseW Mine.hd.view_39 [Str.ofString "_twin_re_1", Str.ofString "_twin_re_2"]) mean mg mb 63 news [] (x.length ≤ 400000 ∧ (Txt.slice x none (some 3) != Str.ofString "257") = false) [.str x t] (fun t => .str (parseS x) t) := by
  w_top off
  k_with_none
  k_fill
  dsimp only [CbClaim, CbLists, CbRet]; intros; rename_i hpre _ _ hret
  obtain ⟨hlen, h257⟩ := hpre
  k_with "exec While Compare cons nil" => k_while (fun (_ : List Int) (dir : Str) (i : Int) => PInv x dir i ∧ 5 ≤ i ∧ dir.length ≤ i.toNat) (fun (_ : List Int) (dir : Str) (i : Int) => x.length - i.toNat) "dirname" "i"
  k_with "state" => first
    | exact ⟨pinv_start _, by decide, by decide⟩
    | exact ⟨pinv_two (by assumption) (by assumption) (by assumption) (by assumption) (by assumption), by omega, by omega⟩
    | exact ⟨pinv_plain (by assumption) (by assumption) (by assumption), by omega, by omega⟩
  refine wpAny_call ?_
  k_dflt cell_enter
  k_steps
  all_goals first
    | (refine cb_retS hret ?e1 ?e2 ?e3; (case e2 => k_asm); (case e3 => k_asm); (case e1 => first
      | exact parse_none (by assumption)
      | exact pinv_last (by assumption) (by assumption) (by assumption) (by assumption) (by assumption)
      | exact pinv_stop (by assumption) (by assumption) (by assumption) (by assumption) (by assumption) (by assumption)
      | exact pinv_exit (by assumption) (by assumption) (by first | assumption | omega)))
    | (exfalso; simp_all; done)
    | trace_state
end Mine
end
section
open PySem PySem.W PyProof.Rows
set_option maxRecDepth 100000
set_option maxHeartbeats 8000000
namespace Mine
open Pa Tk
local macro_rules | `(tactic| walk_at "call ref") => `(tactic| (k_here; (with_reducible show wpAny _ _ (call (Value.ref 63) _) _ _ _); k_dflt ((refine' use_c (parse257_c _ _ _ _ _ _ _) ?k1 ?k2 ?k3 ?k4 ?k5 ?kK ?kp ?kd ?ku ?_); (case k1 => k_asm); (case k2 => k_asm); (case k3 => k_asm); (case k4 => k_asm); (case k5 => k_asm); (case kK => first | exact rfl | assumption); (case kp => assumption); (case kd => ktr_room); (case ku => ktr_units); k_whole; intro t9 h9 tk9 hs9 F9 N9; (try dsimp only at hs9); (try dsimp only); (try k_fold))))
theorem law_read_ok (w : World) (mean : ExcName → Option Value) (mg mb : Str → Option Value) (x : Str) (t : Tok) :
    CC PySem.Challenge.rw_pg0022_01.row.prog w (Mine.hd.heap_39 w.params) Mine.hd.view_39 (looseW Mine.hd.view_39 [Str.ofString "_twin_re_1", Str.ofString "_twin_re_2"]) mean mg mb 99 (x.length ≤ 400000 ∧ (Txt.slice x none (some 3) != Str.ofString "257") = false) [.str x t] (fun t => .str (parseS x) t) := by
  w_top off
  k_with_none
  k_fill
  dsimp only [CC]; intros; rename_i hpre _ _ hret
  refine wpAny_call ?_
  k_dflt cell_enter
  k_steps
  exact hret _ _ _ (by assumption) (by assumption)
end Mine
end
section
open PySem PySem.W PyProof.Rows
set_option maxRecDepth 100000
set_option maxHeartbeats 8000000
namespace Mine
open Pa Tk
-- the walk keeps its table of lines by their number: one more than R1 has
local macro_rules | `(tactic| walk_at "of no tree") => `(tactic| skip)
local macro_rules | `(tactic| walk_at "call ref") => `(tactic| (k_here; (with_reducible show wpAny _ _ (call (Value.ref 99) _) _ _ _); k_dflt ((refine wpAny_call ?_); (refine' code_defS0 ?k1 ?k2 ?k3 ?k4 ?k5 ?kA ?k6 ?k7 ?k8 ?k9 ?kB ?_ ?cK ?c2 ?c3 ?c4 ?c5); (case kA => exact rfl); (case k2 => k_asm); (case k1 => k_asm); (case k3 => k_asm); (case k4 => k_asm); (case k5 => k_asm); (case k6 => k_is); (case k7 => k_is); (case k8 => k_room); (case k9 => exact BindsTo.of_eq rfl); (case kB => exact locs rfl); (case cK => assumption); (case c2 => exact rfl); (case c3 => exact rfl); (case c4 => exact rfl); (case c5 => decide); k_whole; intro g' L' h' FG' F' N' B' X' T' D'; (try dsimp only); (try k_lift B'); (try k_fold))))
theorem law_read_no (w : World) (mean : ExcName → Option Value) (mg mb : Str → Option Value) (x : Str) (t : Tok) (news : List (Addr × Obj)) (cn : Str) (cs : Scope) (a : Addr) (ccd : Value) (h₀ : Heap) (L : Addr) (m : Str → Option Value) (s : Shared) (Q E : Value → Shared → Prop)
    (h257 : (Txt.slice x none (some 3) != Str.ofString "257") = true) (hlen : x.length ≤ 400000) :
    Below callerA h₀ [] h₀ → Fr h₀ L s.heap m → (Mine.hd.heap_39 w.params).In h₀ → News h₀ L s.heap news → Top Mine.hd.view_39 (looseW Mine.hd.view_39 [Str.ofString "_twin_re_1", Str.ofString "_twin_re_2"]) mean mg mb h₀ → cs.kind = .function →
    (∀ (h' : Heap) (tk' : Nat), Fr h₀ L h' m → News h₀ L h' news → Q .none { s with heap := h', toks := tk' }) →
      wpAny (model PySem.Challenge.rw_pg0022_01.row.prog w) (callerA.deeper (envOf cn cs L a ccd)) (call (.ref 99) [.str x t]) Q E s := by
  w_top off
  k_with_none
  k_fill
  intros; rename_i hret
  k_steps
  exact hret _ _ (by assumption) (by first | assumption | (refine cb_drop (by assumption) ?_; intro p hp; simp [hp]))
end Mine
end
section
open PySem PySem.W PyProof.Rows
set_option linter.unusedSimpArgs false
set_option linter.unusedVariables false
namespace Mine
namespace L1
open Rx Pa St
/-- ends of rows as feeds -/
def normL : List Nat → List Nat
  | [] => []
  | 13 :: 10 :: r => 10 :: normL r
  | c :: r => if c == 13 then 10 :: normL r else c :: normL r
theorem normL_crlf (r : List Nat) : normL (13 :: 10 :: r) = 10 :: normL r := by rw [normL]
theorem normL_cr {r : List Nat} (h : ∀ r', r ≠ 10 :: r') : normL (13 :: r) = 10 :: normL r := by
  rw [normL]
  · simp
  · intro r' _ e; exact h r' e
theorem normL_other {c : Nat} (r : List Nat) (h : c ≠ 13) : normL (c :: r) = c :: normL r := by
  rw [normL]
  · simp [h]
  · intro r' e _; exact h e
theorem normL_free (l : List Nat) : 13 ∉ normL l := by
  fun_induction normL l with
  | case1 => simp
  | case2 r ih => simp [ih]
  | case3 c r h1 h2 ih => simp [ih]
  | case4 c r h1 h2 ih =>
    have : c ≠ 13 := by simpa using h2
    simp [ih, Ne.symm this]
/-- what a text of so many sendings is: at a row's start its dots, within a row none -/
def sndL (t : Nat) : Option Nat → List Nat → List Nat
  | _, [] => []
  | some d, c :: r => if c == 10 then 13 :: 10 :: sndL t (some t) r else (if c == 46 then List.replicate d 46 else []) ++ c :: sndL t none r
  | none, c :: r => if c == 10 then 13 :: 10 :: sndL t (some t) r else c :: sndL t none r
def sentL (w : List Nat) (f t : Nat) : List Nat := if t = 0 then w else sndL t (some f) (normL w)
def b1 (b : Bool) : Nat := if b then 1 else 0

theorem snd_nl (t : Nat) (st : Option Nat) (n : List Nat) : sndL t st (10 :: n) = 13 :: 10 :: sndL t (some t) n := by cases st <;> rfl
theorem snd_in (t : Nat) {c : Nat} (n : List Nat) (h : c ≠ 10) : sndL t none (c :: n) = c :: sndL t none n := by simp [sndL, h]
theorem snd_dot (t d : Nat) (n : List Nat) : sndL t (some d) (46 :: n) = List.replicate d 46 ++ 46 :: sndL t none n := rfl
theorem snd_st (t d : Nat) {c : Nat} (n : List Nat) (h : c ≠ 10) (h2 : c ≠ 46) : sndL t (some d) (c :: n) = c :: sndL t none n := by simp [sndL, h, h2]

/-! a mark k times -/
def rep (k : Nat) : List Nat := List.replicate k 34
def put (k : Nat) (l : List Nat) : List Nat := putL 34 (rep k) l
theorem put_nil (k : Nat) : put k [] = [] := rfl
theorem put_mark (k : Nat) (l : List Nat) : put k (34 :: l) = rep k ++ put k l := by unfold put; rw [putL_cons]; simp
theorem put_other (k : Nat) {c : Nat} (l : List Nat) (h : c ≠ 34) : put k (c :: l) = c :: put k l := by unfold put; rw [putL_cons]; simp [h]
theorem put_append (k : Nat) (a b : List Nat) : put k (a ++ b) = put k a ++ put k b := putL_append _ _ _ _
theorem put_rep (j k : Nat) : put j (rep k) = rep (j * k) := by
  induction k with
  | zero => rfl
  | succ k ih =>
    show put j (34 :: rep k) = _
    rw [put_mark, ih]
    unfold rep
    rw [List.replicate_append_replicate, Nat.mul_succ, Nat.add_comm]
theorem put_put (j k : Nat) (l : List Nat) : put j (put k l) = put (j * k) l := by
  induction l with
  | nil => rfl
  | cons c l ih =>
    by_cases h : c = 34
    · subst h; rw [put_mark, put_append, put_rep, ih, put_mark]
    · rw [put_other _ _ h, put_other _ _ h, ih, put_other _ _ h]
theorem put_one (l : List Nat) : put 1 l = l := by
  induction l with
  | nil => rfl
  | cons c l ih =>
    by_cases h : c = 34
    · subst h; rw [put_mark, ih]; rfl
    · rw [put_other _ _ h, ih]
theorem rep_cons {k : Nat} (hk : 1 ≤ k) : rep k = 34 :: rep (k - 1) := by
  obtain ⟨j, rfl⟩ : ∃ j, k = j + 1 := ⟨k - 1, by omega⟩
  rfl
theorem norm_rep (k : Nat) (l : List Nat) : normL (rep k ++ l) = rep k ++ normL l := by
  induction k with
  | zero => rfl
  | succ k ih =>
    show normL (34 :: (rep k ++ l)) = 34 :: (rep k ++ normL l)
    rw [normL_other _ (by decide), ih]
theorem put_head10 {k : Nat} {l r : List Nat} (hk : 1 ≤ k) (h : put k l = 10 :: r) : ∃ r', l = 10 :: r' := by
  cases l with
  | nil => cases h
  | cons c l =>
    by_cases e : c = 34
    · subst e; rw [put_mark, rep_cons hk] at h; cases h
    · rw [put_other _ _ e] at h
      cases h
      exact ⟨l, rfl⟩
theorem norm_put {k : Nat} (hk : 1 ≤ k) (l : List Nat) : normL (put k l) = put k (normL l) := by
  fun_induction normL l with
  | case1 => rfl
  | case2 r ih =>
    rw [put_other _ _ (by decide), put_other _ _ (by decide), normL_crlf, ih, put_other _ _ (by decide)]
  | case3 c r h1 h2 ih =>
    have : c = 13 := by simpa using h2
    subst this
    rw [put_other _ _ (by decide), put_other _ _ (by decide), normL_cr, ih]
    intro r' e
    obtain ⟨r'', e2⟩ := put_head10 hk e
    exact h1 r'' rfl e2
  | case4 c r h1 h2 ih =>
    have h13 : c ≠ 13 := by simpa using h2
    by_cases e : c = 34
    · subst e; rw [put_mark, norm_rep, ih, put_mark]
    · rw [put_other _ _ e, normL_other _ h13, ih, put_other _ _ e]
theorem snd_rep (t : Nat) (k : Nat) (l : List Nat) : sndL t none (rep k ++ l) = rep k ++ sndL t none l := by
  induction k with
  | zero => rfl
  | succ k ih =>
    show sndL t none (34 :: (rep k ++ l)) = 34 :: (rep k ++ sndL t none l)
    rw [sndL, ih]; rfl
theorem snd_put {k : Nat} (hk : 1 ≤ k) (t : Nat) (l : List Nat) : ∀ st, put k (sndL t st l) = sndL t st (put k l) := by
  induction l with
  | nil => intro st; cases st <;> rfl
  | cons c l ih =>
    intro st
    by_cases h10 : c = 10
    · subst h10
      rw [put_other _ _ (by decide)]
      cases st <;> (simp only [sndL]; simp only [beq_self_eq_true, if_true]; rw [put_other _ _ (by decide), put_other _ _ (by decide), ih])
    · by_cases h34 : c = 34
      · subst h34
        rw [put_mark, rep_cons hk]
        cases st with
        | none =>
          simp only [sndL]
          rw [if_neg (by decide), put_mark, ih, rep_cons hk]
          show _ = sndL t none (34 :: (rep (k - 1) ++ put k l))
          rw [sndL, if_neg (by decide), snd_rep]; rfl
        | some d =>
          simp only [sndL]
          rw [if_neg (by decide), if_neg (by decide)]
          show put k (34 :: sndL t none l) = sndL t (some d) (34 :: (rep (k - 1) ++ put k l))
          rw [put_mark, ih, rep_cons hk, sndL, if_neg (by decide), if_neg (by decide), snd_rep]; rfl
      · rw [put_other _ _ h34]
        have hr : ∀ d, put k (List.replicate d 46) = List.replicate d 46 := by
          intro d
          induction d with
          | zero => rfl
          | succ d ihd => rw [List.replicate_succ, put_other _ _ (by decide), ihd]
        cases st with
        | none => rw [snd_in _ _ h10, put_other _ _ h34, ih, snd_in _ _ h10]
        | some d =>
          by_cases h46 : c = 46
          · subst h46; rw [snd_dot, put_append, put_other _ _ h34, ih, snd_dot, hr]
          · rw [snd_st _ _ _ h10 h46, put_other _ _ h34, ih, snd_st _ _ _ h10 h46]
theorem sent_put {k : Nat} (hk : 1 ≤ k) (w : List Nat) (f t : Nat) : put k (sentL w f t) = sentL (put k w) f t := by
  unfold sentL
  split
  · rfl
  · rw [snd_put hk, norm_put hk]

/-! one sending -/
theorem crlf_snd (t : Nat) (n : List Nat) (h : 13 ∉ n) : ∀ st, crlfL (sndL t st n) = sndL t st n := by
  have dotsc : ∀ d l, crlfL (List.replicate d 46 ++ l) = List.replicate d 46 ++ crlfL l := by
    intro d l
    induction d with
    | zero => rfl
    | succ d ih => rw [List.replicate_succ, List.cons_append, crlfL_plain (by decide), ih, List.cons_append]
  induction n with
  | nil => intro st; cases st <;> rfl
  | cons c n ih =>
    intro st
    have hn : 13 ∉ n := fun x => h (.tail _ x)
    have hc : c ≠ 13 := fun x => h (x ▸ .head _)
    by_cases h10 : c = 10
    · subst h10
      cases st <;> (simp only [sndL]; simp only [beq_self_eq_true, if_true]; rw [crlfL_crlf, ih hn])
    · have hnl : nl c = false := by simp [nl, h10, hc]
      cases st with
      | none => simp only [sndL]; rw [if_neg (by simpa using h10), crlfL_plain hnl, ih hn]
      | some d =>
        simp only [sndL]
        rw [if_neg (by simpa using h10)]
        split
        · rw [dotsc, crlfL_plain hnl, ih hn]
        · rw [List.nil_append, crlfL_plain hnl, ih hn]
theorem dot_plain (d : Nat) (l : List Nat) : dotL false (List.replicate d 46 ++ 46 :: l) = List.replicate d 46 ++ 46 :: dotL false l := by
  induction d with
  | zero => show dotL false (46 :: l) = 46 :: dotL false l; rw [dotL]; rfl
  | succ d ih =>
    show dotL false (46 :: (List.replicate d 46 ++ 46 :: l)) = 46 :: (List.replicate d 46 ++ 46 :: dotL false l)
    rw [dotL, ← ih]; rfl
theorem dot_row (b : Bool) (d : Nat) (l : List Nat) : dotL b (List.replicate d 46 ++ 46 :: l) = List.replicate (d + b1 b) 46 ++ 46 :: dotL false l := by
  cases b with
  | false => exact dot_plain d l
  | true =>
    cases d with
    | zero => show dotL true (46 :: l) = 46 :: 46 :: dotL false l; rw [dotL]; rfl
    | succ d =>
      show dotL true (46 :: (List.replicate d 46 ++ 46 :: l)) = 46 :: 46 :: (List.replicate d 46 ++ 46 :: dotL false l)
      rw [dotL, ← dot_plain d l]; rfl
theorem dot_snd (t : Nat) (n : List Nat) : (∀ b f, dotL b (sndL t (some f) n) = sndL (t + 1) (some (f + b1 b)) n) ∧ dotL false (sndL t none n) = sndL (t + 1) none n := by
  induction n with
  | nil => exact ⟨fun _ _ => rfl, rfl⟩
  | cons c n ih =>
    have line : ∀ b, dotL b (13 :: 10 :: sndL t (some t) n) = 13 :: 10 :: sndL (t + 1) (some (t + 1)) n := by
      intro b
      rw [dotL, dotL]
      have : (b && (13 == 46)) = false := by simp
      rw [this]
      have e := ih.1 true t
      show 13 :: 10 :: dotL true (sndL t (some t) n) = _
      rw [e]; rfl
    by_cases h10 : c = 10
    · subst h10
      refine ⟨fun b f => ?_, ?_⟩
      · simp only [sndL]; simp only [beq_self_eq_true, if_true]; exact line b
      · simp only [sndL]; simp only [beq_self_eq_true, if_true]; exact line false
    · have h10' : (c == 10) = false := by simpa using h10
      refine ⟨fun b f => ?_, ?_⟩
      · by_cases h46 : c = 46
        · subst h46
          rw [snd_dot, snd_dot, dot_row, ih.2]
        · have h46' : (c == 46) = false := by simpa using h46
          rw [snd_st _ _ _ h10 h46, snd_st _ _ _ h10 h46, dotL, h46', h10', ih.2]; simp
      · rw [snd_in _ _ h10, snd_in _ _ h10, dotL, h10', ih.2]; simp
def expL (n : List Nat) : List Nat := n.flatMap fun c => if c == 10 then [13, 10] else [c]
theorem exp_cons (c : Nat) (n : List Nat) : expL (c :: n) = (if c == 10 then [13, 10] else [c]) ++ expL n := by simp [expL]
theorem crlf_exp (w : List Nat) : crlfL w = expL (normL w) := by
  fun_induction normL w with
  | case1 => rfl
  | case2 r ih => rw [crlfL_crlf, ih, exp_cons]; rfl
  | case3 c r h1 h2 ih =>
    have : c = 13 := by simpa using h2
    subst this
    rw [crlfL_nl (by decide) (fun _ r' e => h1 r' rfl e), ih, exp_cons]; rfl
  | case4 c r h1 h2 ih =>
    have h13 : c ≠ 13 := by simpa using h2
    rw [exp_cons]
    by_cases h10 : c = 10
    · subst h10
      rw [crlfL_nl (by decide) (fun e => absurd e (by decide)), ih]; rfl
    · have hnl : nl c = false := by simp [nl, h10, h13]
      rw [crlfL_plain hnl, ih, if_neg (by simpa using h10)]; rfl
theorem dot_exp (n : List Nat) : ∀ b : Bool, dotL b (expL n) = (if b then sndL 1 (some 1) n else sndL 1 (some 0) n) ∧ (sndL 1 (some 0) n = sndL 1 none n) := by
  induction n with
  | nil => intro b; cases b <;> exact ⟨rfl, rfl⟩
  | cons c n ih =>
    intro b
    by_cases h10 : c = 10
    · subst h10
      refine ⟨?_, by simp [sndL]⟩
      have e : dotL b (expL (10 :: n)) = 13 :: 10 :: sndL 1 (some 1) n := by
        rw [exp_cons]
        show dotL b (13 :: 10 :: expL n) = _
        rw [dotL, dotL]
        have : (b && (13 == 46)) = false := by simp
        rw [this]
        have e := (ih true).1
        simp only [if_true] at e
        show 13 :: 10 :: dotL true (expL n) = _
        rw [e]
      rw [e]
      cases b <;> simp [sndL]
    · have h10' : (c == 10) = false := by simpa using h10
      have e0 := (ih false).1
      simp only [Bool.false_eq_true, if_false] at e0
      have e1 := (ih false).2
      rw [exp_cons, h10']
      simp only [Bool.false_eq_true, if_false, List.singleton_append, List.cons_append, List.nil_append]
      rw [dotL, h10', e0, e1]
      refine ⟨?_, ?_⟩
      · by_cases h46 : c = 46
        · subst h46; cases b <;> simp [sndL]
        · have h46' : (c == 46) = false := by simpa using h46
          cases b <;> simp [sndL, h10', h46']
      · by_cases h46 : c = 46
        · subst h46; simp [sndL]
        · have h46' : (c == 46) = false := by simpa using h46
          simp [sndL, h10', h46']
theorem quote_sent (b : Bool) (w : List Nat) (f t : Nat) (h : t = 0 → f = 0) : dotL b (crlfL (sentL w f t)) = sentL w (f + b1 b) (t + 1) := by
  unfold sentL
  rw [if_neg (Nat.succ_ne_zero t)]
  by_cases ht : t = 0
  · subst ht
    rw [h rfl, if_pos rfl, crlf_exp, (dot_exp (normL w) b).1]
    cases b <;> rfl
  · rw [if_neg ht, crlf_snd t _ (normL_free w), (dot_snd t (normL w)).1]
theorem quote_put (b : Bool) {k : Nat} (hk : 1 ≤ k) (w : List Nat) (f t : Nat) (h : t = 0 → f = 0) : dotL b (crlfL (put k (sentL w f t))) = put k (sentL w (f + b1 b) (t + 1)) := by
  rw [sent_put hk, quote_sent b _ f t h, ← sent_put hk]

/-! the whole text of its layers: the innermost (w, t), with its front; then the layers outside it, the outermost first -/
abbrev Lay := List Nat × Nat
def whl (w0 : Lay) (front : Nat) : List Lay → Nat → List Nat
  | [], k => put k (sentL w0.1 front w0.2)
  | l :: ls, k => [50, 53, 55, 32] ++ rep k ++ whl w0 front ls (2 * k) ++ rep k ++ put k (sentL l.1 0 l.2)
theorem put_257 (k : Nat) : put k [50, 53, 55, 32] = [50, 53, 55, 32] := rfl
theorem whl_put (w0 : Lay) (front j : Nat) : ∀ (ls : List Lay) (k : Nat), put j (whl w0 front ls k) = whl w0 front ls (j * k)
  | [], k => put_put j k _
  | l :: ls, k => by
    simp only [whl, put_append, put_257, put_rep, put_put]
    rw [whl_put w0 front j ls (2 * k)]
    congr 4
    rw [Nat.mul_left_comm]
theorem whl_wrap (w0 : Lay) (front : Nat) (ls : List Lay) (tail : List Nat) : [50, 53, 55, 32, 34] ++ put 2 (whl w0 front ls 1) ++ [34] ++ tail = whl w0 front ((tail, 0) :: ls) 1 := by
  rw [whl_put]
  show _ = [50, 53, 55, 32] ++ rep 1 ++ whl w0 front ls (2 * 1) ++ rep 1 ++ put 1 (sentL tail 0 0)
  rw [put_one]
  simp [sentL, rep]
theorem crlf_mark (x y : List Nat) : crlfL (x ++ 34 :: y) = crlfL x ++ 34 :: crlfL y := by
  fun_induction crlfL x with
  | case1 => exact crlfL_plain (by decide)
  | case2 r ih => show crlfL (13 :: 10 :: (r ++ 34 :: y)) = _; rw [crlfL_crlf, ih]; rfl
  | case3 c r h1 h2 ih =>
    show crlfL (c :: (r ++ 34 :: y)) = _
    rw [crlfL_nl h2 (fun e r' e2 => by
      cases r with
      | nil => cases e2
      | cons d r => cases e2; exact h1 r e rfl), ih]; rfl
  | case4 c r h1 h2 ih =>
    show crlfL (c :: (r ++ 34 :: y)) = _
    rw [crlfL_plain (by simpa using h2), ih]; rfl
theorem dot_mark (y : List Nat) : ∀ (x : List Nat) (b : Bool), dotL b (x ++ 34 :: y) = dotL b x ++ 34 :: dotL false y
  | [], b => by show dotL b (34 :: y) = _; rw [dotL]; simp [dotL]
  | c :: x, b => by
    show dotL b (c :: (x ++ 34 :: y)) = _
    rw [dotL, dotL, dot_mark y x]; simp
theorem quote_mark (b : Bool) (x y : List Nat) : dotL b (crlfL (x ++ 34 :: y)) = dotL b (crlfL x) ++ 34 :: dotL false (crlfL y) := by rw [crlf_mark, dot_mark]
theorem quote_rep (b : Bool) (x y : List Nat) {k : Nat} (hk : 1 ≤ k) : dotL b (crlfL (x ++ (rep k ++ y))) = dotL b (crlfL x) ++ (rep k ++ dotL false (crlfL y)) := by
  have step : ∀ j, dotL false (crlfL (rep j ++ y)) = rep j ++ dotL false (crlfL y) := by
    intro j
    induction j with
    | zero => rfl
    | succ j ih =>
      have := quote_mark false [] (rep j ++ y)
      rw [ih] at this
      exact this
  rw [rep_cons hk, List.cons_append, quote_mark, step]; rfl
def up (l : Lay) : Lay := (l.1, l.2 + 1)
theorem quote_whl (w0 : Lay) (front : Nat) (h0 : w0.2 = 0 → front = 0) : ∀ (ls : List Lay) (k : Nat) (b : Bool), 1 ≤ k →
    dotL b (crlfL (whl w0 front ls k)) = whl (up w0) (front + (if ls.isEmpty then b1 b else 0)) (ls.map up) k
  | [], k, b, hk => quote_put b hk w0.1 front w0.2 h0
  | l :: ls, k, b, hk => by
    have ih := quote_whl w0 front h0 ls (2 * k) false (by omega)
    have e0 : (if ls.isEmpty then b1 false else 0) = 0 := by split <;> rfl
    rw [e0] at ih
    simp only [whl, List.map_cons, List.append_assoc]
    rw [quote_rep b _ _ hk, quote_rep false _ _ hk, ih, quote_put false hk l.1 0 l.2 (fun _ => rfl)]
    have e257 : dotL b (crlfL [50, 53, 55, 32]) = [50, 53, 55, 32] := by cases b <;> decide
    rw [e257]
    rfl
/-! reading -/
theorem unq_put2 (y : List Nat) (hy : ∀ r, y ≠ 34 :: r) : ∀ x : List Nat, unqL (put 2 x ++ 34 :: y) = x
  | [] => by
    cases y with
    | nil => exact unqL_last
    | cons d r => exact unqL_stop r (fun e => hy r (by rw [e]))
  | c :: x => by
    by_cases h : c = 34
    · subst h
      rw [put_mark]
      show unqL (34 :: 34 :: (put 2 x ++ 34 :: y)) = _
      rw [unqL_two, unq_put2 y hy x]
    · rw [put_other _ _ h]
      show unqL (c :: (put 2 x ++ 34 :: y)) = _
      rw [unqL_plain _ h, unq_put2 y hy x]
theorem norm_head {w : List Nat} (h : ∀ r, w ≠ 34 :: r) : ∀ r, normL w ≠ 34 :: r := by
  intro r e
  fun_cases normL w with
  | case1 => cases e
  | case2 r' => rw [normL] at e; cases e
  | case3 c r' h1 h2 =>
    rw [normL] at e
    · rw [if_pos h2] at e; cases e
    · exact h1
  | case4 c r' h1 h2 =>
    rw [normL] at e
    · rw [if_neg h2] at e
      cases e
      exact h r' rfl
    · exact h1
theorem sent_head {w : List Nat} (h : ∀ r, w ≠ 34 :: r) (t : Nat) : ∀ r, sentL w 0 t ≠ 34 :: r := by
  intro r e
  unfold sentL at e
  split at e
  · exact h r e
  · have hn := norm_head h
    cases hw : normL w with
    | nil => rw [hw] at e; cases e
    | cons c n =>
      rw [hw] at e
      simp only [sndL] at e
      split at e
      · cases e
      · have : c ≠ 34 := fun x => hn n (by rw [hw, x])
        simp only [List.replicate_zero, ite_self, List.nil_append, List.cons.injEq] at e
        exact this e.1
theorem read_whl (w0 : Lay) (front : Nat) (l : Lay) (ls : List Lay) (h : ∀ r, l.1 ≠ 34 :: r) : unqL ((whl w0 front (l :: ls) 1).drop 5) = whl w0 front ls 1 := by
  have e : (whl w0 front (l :: ls) 1).drop 5 = put 2 (whl w0 front ls 1) ++ 34 :: sentL l.1 0 l.2 := by
    rw [whl_put]
    simp only [whl, put_one]
    simp [rep]
  rw [e, unq_put2 _ (sent_head h l.2)]
end L1
end Mine
end
section
open PySem PySem.W PyProof.Rows PySem.Builtin PySem.Builtin.Str
set_option linter.unusedSimpArgs false
set_option linter.unusedVariables false
namespace Mine
namespace L1
open Rx Pa St
/-- return and feed as a feed -/
def lfL : List Nat → List Nat
  | [] => []
  | 13 :: 10 :: r => 10 :: lfL r
  | c :: r => c :: lfL r
theorem lfL_crlf (r : List Nat) : lfL (13 :: 10 :: r) = 10 :: lfL r := by rw [lfL]
theorem lfL_other {c : Nat} {r : List Nat} (h : ∀ r', c :: r ≠ 13 :: 10 :: r') : lfL (c :: r) = c :: lfL r := by
  rw [lfL]
  intro r' e e2; exact h r' (by rw [e, e2])
theorem norm_lf (l : List Nat) : putL 13 [10] (lfL l) = normL l := by
  fun_induction normL l with
  | case1 => rfl
  | case2 r ih => rw [lfL_crlf, putL_cons, ih]; rfl
  | case3 c r h1 h2 ih =>
    have : c = 13 := by simpa using h2
    subst this
    rw [lfL_other (fun r' e => by cases e; exact h1 r' rfl rfl), putL_cons, ih]; rfl
  | case4 c r h1 h2 ih =>
    have h13 : c ≠ 13 := by simpa using h2
    rw [lfL_other (fun r' e => by cases e; exact h13 rfl), putL_cons, ih, if_neg (by simpa using h13)]; rfl
def crlfP : PySem.Str := ⟨#[13, 10]⟩
theorem at_iff (x : PySem.Str) (k : Nat) : StrLaws.At x crlfP x.length k ↔ ∃ r, x.cps.toList.drop k = 13 :: 10 :: r := by
  have hl : x.length = x.cps.toList.length := by simp [PySem.Str.length]
  have e2 : crlfP.length = 2 := rfl
  unfold StrLaws.At
  rw [e2]
  constructor
  · rintro ⟨h1, h2⟩
    unfold subAt at h2
    have h3 : x.cps.extract k (k + 2) = #[13, 10] := by
      have := eq_of_beq h2
      exact this
    have h4 := congrArg Array.toList h3
    rw [Array.toList_extract, List.extract_eq_take_drop, show k + 2 - k = 2 by omega] at h4
    rw [hl] at h1
    refine ⟨x.cps.toList.drop (k + 2), ?_⟩
    have h5 := List.take_append_drop 2 (x.cps.toList.drop k)
    rw [h4, List.drop_drop] at h5
    exact h5.symm
  · rintro ⟨r, e⟩
    have hlen := congrArg List.length e
    rw [List.length_drop] at hlen
    simp only [List.length_cons] at hlen
    refine ⟨by omega, ?_⟩
    unfold subAt
    have : x.cps.extract k (k + crlfP.length) = crlfP.cps := by
      apply Array.toList_inj.mp
      rw [Array.toList_extract, List.extract_eq_take_drop, e2, show k + 2 - k = 2 by omega, e]
      rfl
    rw [this]
    exact beq_self_eq_true _
theorem lf_run (l : List Nat) : ∀ (d a : Nat), a + d ≤ l.length → (∀ k, a ≤ k → k < a + d → ¬ ∃ r, l.drop k = 13 :: 10 :: r) → lfL (l.drop a) = (l.drop a).take d ++ lfL (l.drop (a + d))
  | 0, a, _, _ => by simp
  | d + 1, a, h, hn => by
    have ih := lf_run l d (a + 1) (by omega) (fun k h1 h2 => hn k (by omega) (by omega))
    have hd : l.drop a = l[a] :: l.drop (a + 1) := List.drop_eq_getElem_cons (by omega)
    have h0 := hn a (Nat.le_refl _) (by omega)
    rw [hd, lfL_other (fun r' e => h0 ⟨r', by rw [hd, e]⟩), ih, List.take_succ_cons, show a + 1 + d = a + (d + 1) by omega]
    rfl
theorem sub_toList (x : PySem.Str) (a b : Nat) : (strSub x a b).cps.toList = (x.cps.toList.drop a).take (b - a) := StrLaws.strSub_toList x a b
theorem parts_lf (x z : PySem.Str) (hz : z.cps.toList = [10]) : ∀ (cuts : List Nat) (a f : Nat), a ≤ x.length → StrLaws.ChainG x crlfP x.length a cuts f → (∀ k, f ≤ k → ¬ StrLaws.At x crlfP x.length k) →
    (PySem.Str.join z (StrLaws.partsFrom x crlfP.length a cuts)).cps.toList = lfL (x.cps.toList.drop a)
  | [], a, f, ha, h, hn => by
    have hl : x.length = x.cps.toList.length := by simp [PySem.Str.length]
    have e : f = a := h
    subst e
    have := lf_run x.cps.toList (x.length - f) f (by omega) (fun k h1 h2 hx => hn k h1 ((at_iff x k).mpr hx))
    rw [this, show f + (x.length - f) = x.cps.toList.length by omega, List.drop_length]
    show (strSub x f x.length).cps.toList = _
    rw [sub_toList]; simp [lfL]
  | c :: r, a, f, ha, h, hn => by
    obtain ⟨h1, h2, h3, h4⟩ := h
    have hl : x.length = x.cps.toList.length := by simp [PySem.Str.length]
    have e2 : crlfP.length = 2 := rfl
    have hc := h2.1
    rw [e2] at hc h4
    have ih := parts_lf x z hz r (c + 2) f (by omega) h4 hn
    have run := lf_run x.cps.toList (c - a) a (by omega) (fun k k1 k2 hx => h3 k k1 (by omega) ((at_iff x k).mpr hx))
    rw [show a + (c - a) = c by omega] at run
    obtain ⟨rr, er⟩ := (at_iff x c).mp h2
    have err : rr = x.cps.toList.drop (c + 2) := by
      have := congrArg (List.drop 2) er
      rw [List.drop_drop] at this
      simpa using this.symm
    rw [run, er, lfL_crlf, err]
    obtain ⟨p, q, epq⟩ := StrLaws.partsFrom_ne x crlfP.length (c + crlfP.length) r
    have ej : PySem.Str.join z (StrLaws.partsFrom x crlfP.length a (c :: r)) = strSub x a c ++ z ++ PySem.Str.join z (StrLaws.partsFrom x crlfP.length (c + crlfP.length) r) := by
      show PySem.Str.join z (strSub x a c :: StrLaws.partsFrom x crlfP.length (c + crlfP.length) r) = _
      rw [epq]; rfl
    rw [ej, app_toList, app_toList, sub_toList, hz]
    have e3 : c + crlfP.length = c + 2 := rfl
    rw [e3, ih]
    simp
theorem replace_lf (x z : PySem.Str) (hz : z.cps.toList = [10]) : (Txt.replace x crlfP z).cps.toList = lfL x.cps.toList := by
  obtain ⟨f, hc, hn⟩ := StrLaws.occ_tight x crlfP (by decide)
  have key := parts_lf x z hz _ 0 f (Nat.zero_le _) hc hn
  rw [List.drop_zero] at key
  unfold Txt.replace
  split
  · rename_i h
    have hocc : (occurrences x crlfP 0 x.length (x.length + 1)) = [] := by
      rcases Bool.or_eq_true_iff.mp h with e | e
      · exact List.isEmpty_iff.mp e
      · exact absurd e (by rw [show (crlfP.length == 0) = false from rfl]; simp)
    rw [hocc] at key
    rw [← key]
    show x.cps.toList = (strSub x 0 x.length).cps.toList
    rw [StrLaws.sub_whole]
  · rw [StrLaws.glued_eq_join, StrLaws.partsBetween_eq]
    exact key
/-- the text with feeds alone -/
def normS (x : PySem.Str) : PySem.Str := Txt.replace (Txt.replace x (PySem.Str.ofString "\x0d\n") (PySem.Str.ofString "\n")) (PySem.Str.ofString "\x0d") (PySem.Str.ofString "\n")
theorem crlf_is : PySem.Str.ofString "\x0d\n" = crlfP := by decide +kernel
theorem lf_is : PySem.Str.ofString "\n" = ⟨#[10]⟩ := by decide +kernel
theorem cr_is : PySem.Str.ofString "\x0d" = ⟨#[13]⟩ := by decide +kernel
theorem normS_L (x : PySem.Str) : (normS x).cps.toList = normL x.cps.toList := by
  unfold normS
  rw [crlf_is, lf_is, cr_is, replace_put, replace_lf _ _ rfl]
  exact norm_lf _
/-! the rows, each with its dots -/
def rowS (d : Int) (row : PySem.Str) : PySem.Str := if (Txt.slice row none (some 1) == PySem.Str.ofString ".") = true then Txt.mul (PySem.Str.ofString ".") d ++ row else row
def rowL (d : Nat) (row : List Nat) : List Nat := match row with
  | 46 :: r => List.replicate d 46 ++ 46 :: r
  | r => r
theorem snd_row (t : Nat) (row : List Nat) (h : 10 ∉ row) (rest : List Nat) : (∀ d, sndL t (some d) (row ++ 10 :: rest) = rowL d row ++ 13 :: 10 :: sndL t (some t) rest) ∧ sndL t none (row ++ 10 :: rest) = row ++ 13 :: 10 :: sndL t (some t) rest := by
  have key : ∀ row : List Nat, 10 ∉ row → sndL t none (row ++ 10 :: rest) = row ++ 13 :: 10 :: sndL t (some t) rest := by
    intro row
    induction row with
    | nil => intro _; exact snd_nl t none rest
    | cons c row ih =>
      intro h
      have hc : c ≠ 10 := fun e => h (e ▸ .head _)
      show sndL t none (c :: (row ++ 10 :: rest)) = c :: (row ++ 13 :: 10 :: sndL t (some t) rest)
      rw [snd_in _ _ hc, ih (fun x => h (.tail _ x))]
  refine ⟨fun d => ?_, key row h⟩
  cases row with
  | nil => exact snd_nl t (some d) rest
  | cons c row =>
    have hc : c ≠ 10 := fun e => h (e ▸ .head _)
    have hr : 10 ∉ row := fun x => h (.tail _ x)
    by_cases h46 : c = 46
    · subst h46
      show sndL t (some d) (46 :: (row ++ 10 :: rest)) = (List.replicate d 46 ++ 46 :: row) ++ 13 :: 10 :: sndL t (some t) rest
      rw [snd_dot, key row hr]; simp
    · have e : rowL d (c :: row) = c :: row := by
        unfold rowL
        split
        · rename_i e; cases e; exact absurd rfl h46
        · rfl
      rw [e]
      show sndL t (some d) (c :: (row ++ 10 :: rest)) = c :: (row ++ 13 :: 10 :: sndL t (some t) rest)
      rw [snd_st _ _ _ hc h46, key row hr]
theorem snd_last (t : Nat) (row : List Nat) (h : 10 ∉ row) (d : Nat) : sndL t (some d) row = rowL d row := by
  have key : ∀ row : List Nat, 10 ∉ row → sndL t none row = row := by
    intro row
    induction row with
    | nil => intro _; rfl
    | cons c row ih =>
      intro h
      have hc : c ≠ 10 := fun e => h (e ▸ .head _)
      rw [snd_in _ _ hc, ih (fun x => h (.tail _ x))]
  cases row with
  | nil => rfl
  | cons c row =>
    have hc : c ≠ 10 := fun e => h (e ▸ .head _)
    have hr : 10 ∉ row := fun x => h (.tail _ x)
    by_cases h46 : c = 46
    · subst h46; rw [snd_dot, key row hr]; rfl
    · have e : rowL d (c :: row) = c :: row := by
        unfold rowL
        split
        · rename_i e; cases e; exact absurd rfl h46
        · rfl
      rw [e, snd_st _ _ _ hc h46, key row hr]
theorem slice_one (c : Nat) (r : List Nat) : Txt.slice (⟨(c :: r).toArray⟩ : PySem.Str) none (some 1) = ⟨#[c]⟩ := by
  have := StrLaws.sliceText_to (x := ⟨(c :: r).toArray⟩) (j := 1) ⟨by omega, by simp; omega⟩
  exact this.trans (by simp)
theorem str_list (x : PySem.Str) : x = ⟨x.cps.toList.toArray⟩ := by cases x; simp
theorem rowS_L (d : Int) (row : PySem.Str) : (rowS d row).cps.toList = rowL d.toNat row.cps.toList := by
  unfold rowS
  cases hr : row.cps.toList with
  | nil =>
    have e : row = ⟨#[]⟩ := by rw [str_list row, hr]
    subst e
    have : (Txt.slice (⟨#[]⟩ : PySem.Str) none (some 1) == PySem.Str.ofString ".") = false := by decide +kernel
    rw [this]; rfl
  | cons c r =>
    have e : row = ⟨(c :: r).toArray⟩ := by rw [str_list row, hr]
    rw [e, slice_one, L2.dot_is]
    by_cases h46 : c = 46
    · subst h46
      have : ((⟨#[46]⟩ : PySem.Str) == ⟨#[46]⟩) = true := by decide
      rw [if_pos this, app_toList, ← L2.dot_is, mul_dots]
      rfl
    · have : ((⟨#[c]⟩ : PySem.Str) == ⟨#[46]⟩) = false := by simpa using h46
      rw [this]
      simp only [Bool.false_eq_true, if_false]
      unfold rowL
      split
      · rename_i e2; cases e2; exact absurd rfl h46
      · rfl
theorem join_rows (t : Int) : ∀ (ps : List PySem.Str) (f : Int), ps ≠ [] → (∀ p ∈ ps, 10 ∉ p.cps.toList) →
    (PySem.Str.join crlfP (List.zipWith rowS (f :: List.replicate (ps.length - 1) t) ps)).cps.toList = sndL t.toNat (some f.toNat) (PySem.Str.join ⟨#[10]⟩ ps).cps.toList
  | [], _, h, _ => absurd rfl h
  | [p], f, _, hp => by
    show (rowS f p).cps.toList = sndL t.toNat (some f.toNat) p.cps.toList
    rw [rowS_L, snd_last _ _ (hp p (.head _))]
  | p :: q :: r, f, _, hp => by
    have ih := join_rows t (q :: r) t (by simp) (fun x hx => hp x (.tail _ hx))
    have e1 : List.zipWith rowS (f :: List.replicate ((p :: q :: r).length - 1) t) (p :: q :: r) = rowS f p :: List.zipWith rowS (t :: List.replicate ((q :: r).length - 1) t) (q :: r) := by
      simp [List.replicate_succ]
    rw [e1]
    obtain ⟨u, v, euv⟩ : ∃ u v, List.zipWith rowS (t :: List.replicate ((q :: r).length - 1) t) (q :: r) = u :: v := ⟨_, _, rfl⟩
    have e2 : PySem.Str.join crlfP (rowS f p :: List.zipWith rowS (t :: List.replicate ((q :: r).length - 1) t) (q :: r)) = rowS f p ++ crlfP ++ PySem.Str.join crlfP (List.zipWith rowS (t :: List.replicate ((q :: r).length - 1) t) (q :: r)) := by
      rw [euv]; rfl
    have e3 : PySem.Str.join ⟨#[10]⟩ (p :: q :: r) = p ++ ⟨#[10]⟩ ++ PySem.Str.join ⟨#[10]⟩ (q :: r) := rfl
    rw [e2, e3, app_toList, app_toList, app_toList, app_toList, ih, rowS_L]
    show _ = sndL t.toNat (some f.toNat) (p.cps.toList ++ [10] ++ (PySem.Str.join ⟨#[10]⟩ (q :: r)).cps.toList)
    have e4 : p.cps.toList ++ [10] ++ (PySem.Str.join ⟨#[10]⟩ (q :: r)).cps.toList = p.cps.toList ++ 10 :: (PySem.Str.join ⟨#[10]⟩ (q :: r)).cps.toList := by simp
    rw [e4, (snd_row t.toNat p.cps.toList (hp p (.head _)) _).1]
    simp [crlfP]
/-- a text of so many sendings -/
def sentS (w : PySem.Str) (f t : Int) : PySem.Str := ⟨(sentL w.cps.toList f.toNat t.toNat).toArray⟩
def rowsS (w : PySem.Str) : List PySem.Str := Txt.split (normS w) (PySem.Str.ofString "\n")
theorem rows_ne (w : PySem.Str) : rowsS w ≠ [] := by
  have key : ∀ x y : PySem.Str, partsBetween x (occurrences x y 0 x.length (x.length + 1)) y.length ≠ [] := by
    intro x y h
    have := length_partsBetween x (occurrences x y 0 x.length (x.length + 1)) y.length
    rw [h] at this
    simp at this
  unfold rowsS Txt.split
  repeat' split
  all_goals first | exact key _ _ | simp
theorem sent_join (w : PySem.Str) (f t : Int) (ht : t ≠ 0) (h0 : 0 ≤ t) : PySem.Str.join (PySem.Str.ofString "\x0d\n") (List.zipWith rowS (f :: List.replicate ((rowsS w).length - 1) t) (rowsS w)) = sentS w f t := by
  apply St.str_eq
  rw [crlf_is, join_rows t _ f (rows_ne w) (by
    unfold rowsS
    rw [lf_is]
    exact StrLaws.split_free _ 10)]
  have ej : PySem.Str.join ⟨#[10]⟩ (rowsS w) = normS w := by
    unfold rowsS
    rw [lf_is]
    exact StrLaws.join_split _ _
  rw [ej, normS_L]
  show _ = sentL w.cps.toList f.toNat t.toNat
  unfold sentL
  rw [if_neg (by omega)]
theorem sent_zero (w : PySem.Str) (f : Int) : sentS w f 0 = w := by
  apply St.str_eq
  rfl
end L1
end Mine
end
section
open PySem PySem.W PyProof.Rows PyProof.Rows.LCg PySem.Calls
set_option linter.unusedSimpArgs false
set_option linter.unusedVariables false
set_option maxRecDepth 100000
set_option maxHeartbeats 4000000
namespace Mine
namespace Zc
section
variable {prog : Program} {w : World} {A : Around} {E : Value → Shared → Prop} {h₀ : Heap} {L : Addr} {m : Str → Option Value} {env : Env}
/-- what the element's walk must bring: the ledger as it was, and the text -/
def ZEnd (h₀ : Heap) (L : Addr) (m : Str → Option Value) (s₁ : Shared) (led : List (Addr × Obj)) (y₀ : Str) (y : Value) (s₂ : Shared) : Prop :=
  ∃ h' tk t, s₂ = { s₁ with heap := h', toks := tk } ∧ Fr h₀ L h' m ∧ News h₀ L h' led ∧ y = .str y₀ t
theorem ZEnd.intro {s₁ : Shared} {led : List (Addr × Obj)} {y₀ y₁ : Str} {h' : Heap} {tk : Nat} {t : Tok} (F : Fr h₀ L h' m) (N : News h₀ L h' led) (e : y₁ = y₀) : ZEnd h₀ L m s₁ led y₀ (.str y₁ t) { s₁ with heap := h', toks := tk } :=
  ⟨h', tk, t, rfl, F, N, by rw [e]⟩
abbrev ZSt (z TI TO i1 i2 l1 l2 : Addr) (xs ys : Array Value) (i : Nat) (h : Heap) : Prop :=
  IsZip h z TI TO .none ∧ IsPair h TI (.ref i1) (.ref i2) ∧ (∃ a b, IsPair h TO a b) ∧ h.IsListIter i1 l1 i ∧ h.IsListIter i2 l2 i ∧ h.IsList l1 xs ∧ h.IsList l2 ys
/-- the iterator's five objects, whatever they hold now -/
abbrev ItAt (h : Heap) (z TI TO i1 i2 : Addr) (its : List (Addr × Obj)) : Prop := ∃ oz oTI oTO o1 o2, its = [(z, oz), (TI, oTI), (TO, oTO), (i1, o1), (i2, o2)] ∧ h.get? z = some oz ∧ h.get? TI = some oTI ∧ h.get? TO = some oTO ∧ h.get? i1 = some o1 ∧ h.get? i2 = some o2
theorem st_it {h : Heap} {z TI TO i1 i2 l1 l2 : Addr} {xs ys : Array Value} {i : Nat} (S : ZSt z TI TO i1 i2 l1 l2 xs ys i h) : ∃ its, ItAt h z TI TO i1 i2 its := by
  obtain ⟨h1, h2, ⟨a, b, h3⟩, ⟨o1, ho1, _⟩, ⟨o2, ho2, _⟩, _⟩ := S
  exact ⟨_, _, _, _, _, _, rfl, h1, h2, h3, ho1, ho2⟩
theorem get_same {h h' : Heap} {a : Addr} {o : Obj} (e : h.get? a = some o) (e' : h'.get? a = some o) : ∀ q, h.get? a = some q → h'.get? a = some q := fun q hq => by rw [e] at hq; cases hq; exact e'
theorem fr_wr {h h' : Heap} {wr : List Addr} (F : Fr h₀ L h m) (hk : ∀ b o, b ∉ wr → h.get? b = some o → h'.get? b = some o) (hL : L ∉ wr) (h0 : ∀ b ∈ wr, h₀.get? b = none) : Fr h₀ L h' m :=
  ⟨F.ns.at' fun o e => hk L o hL e, fun b o e => hk b o (fun hm => by rw [h0 b hm] at e; cases e) (F.keep b o e), F.above⟩
theorem news_wr {h h' : Heap} {wr : List Addr} {news : List (Addr × Obj)} (N : News h₀ L h news) (hk : ∀ b o, b ∉ wr → h.get? b = some o → h'.get? b = some o) (off : ∀ p ∈ news, p.1 ∉ wr) : News h₀ L h' news :=
  fun p hp => ⟨hk _ _ (off p hp) (N p hp).1, (N p hp).2⟩
theorem zip_snoc {g : Int → Str → Str} {ks : List Int} {xs : List Str} {i : Nat} {k : Int} {x : Str} (hk : ks[i]? = some k) (hx : xs[i]? = some x) : List.zipWith g (ks.take (i + 1)) (xs.take (i + 1)) = List.zipWith g (ks.take i) (xs.take i) ++ [g k x] := by
  have e1 : ks.take (i + 1) = ks.take i ++ [k] := by simp [List.take_add_one, hk]
  have e2 : xs.take (i + 1) = xs.take i ++ [x] := by simp [List.take_add_one, hx]
  have hl : (ks.take i).length = (xs.take i).length := by
    have h1 := (List.getElem?_eq_some_iff.mp hk).1
    have h2 := (List.getElem?_eq_some_iff.mp hx).1
    simp; omega
  rw [e1, e2, List.zipWith_append hl]; rfl
theorem zc_block {elt iter : PySem.Expr} {a b : Str} {pa pb tp : Pos} {kk : Nat} {scope : Scope} {cl : List (Str × Addr)} {pos : Pos} {s₂ : Shared} {z TI TO i1 i2 l1 l2 : Addr} {ol1 ol2 : Obj} {vs ws : List Value} {ks : List Int} {xs : List Str} {g : Int → Str → Str} {news : List (Addr × Obj)}
    {RR : Value → Addr → Result → Shared → Prop}
    (hh : A.handled = none) (D : ZipApart z TI TO i1 i2 l1 l2) (hi : IntsAre vs ks) (hw : StrsAre ws xs) (hlen : ks.length = xs.length) (hsz : xs.length ≤ 100000)
    (hst : ZSt z TI TO i1 i2 l1 l2 vs.toArray ws.toArray 0 s₂.heap) (hfresh : ∀ q ∈ [z, TI, TO, i1, i2], h₀.get? q = none ∧ L ≠ q ∧ ∀ p ∈ news, p.1 ≠ q) (hm1 : (l1, ol1) ∈ news) (hm2 : (l2, ol2) ∈ news)
    (hcell : ∀ y ∈ scope.names, y.2 ≠ .cell) (hkind : scope.kind = .function) (hxa : scope.names.lookup a = some .local) (hxb : scope.names.lookup b = some .local) (hab : ¬ a = b)
    (F : Fr h₀ L s₂.heap m) (N : News h₀ L s₂.heap news)
    (turn : ∀ (k : Int) (x : Str) (t u : Tok) (C Dl : Addr) (oC : Obj) (ys : List Value) (its : List (Addr × Obj)) (m₂ : Str → Option Value) (h : Heap) (tk : Nat) (E' : Value → Shared → Prop), k ∈ ks → x ∈ xs → NsObj oC m₂ → m₂ a = some (.int k t) → m₂ b = some (.str x u) → Fr h₀ L h m →
      News h₀ L h ((C, oC) :: (Dl, lst ys) :: (its ++ news)) → wpAny (model prog w) A (eval elt (compEnvC scope cl C env)) (ZEnd h₀ L m { s₂ with heap := h, toks := tk } ((C, oC) :: (Dl, lst ys) :: (its ++ news)) (g k x)) E' { s₂ with heap := h, toks := tk })
    (hRR : ∀ Dl C h tk m' ys, Fr h₀ L h m → News h₀ L h ((Dl, lst ys) :: news) → (∀ p ∈ news, p.1 < Dl) → h.Ns C m' → h₀.get? C = none → C ≠ L → C ≠ Dl → (∀ p ∈ news, p.1 ≠ C) → StrsAre ys (List.zipWith g ks xs) → RR (.ref Dl) C (.ok .next) { s₂ with heap := h, toks := tk }) :
    wpAny (model prog w) A (newList []) (fun acc s₃ => wpAny (model prog w) A (newFunctionEnv scope env.globals cl [] env.qual none .none (some env)) (fun cenv s₄ =>
      codeAny (model prog w) A (.compStart (.ListComp elt [⟨.Tuple [.Name a pa, .Name b pb] kk tp, iter, [], 0⟩] scope pos) 0 (.ref z) acc { cenv with scope := relabel scope env }) (RR acc cenv.locals) s₄) E s₃) E s₂ := by
  refine wpAny_newObj_type (wpAny_newFunctionEnv hcell (by intro y hy; simp at hy) (fun h₁ hns₁ hsb₁ => ?_) hkind)
  dsimp only at hns₁ hsb₁ ⊢
  generalize hH2 : s₂.heap.push { cls := .type "list", dict := none, data := .seq ([] : List Value).toArray } = H2 at hns₁ hsb₁ ⊢
  have hC : H2.objs.size = s₂.heap.objs.size + 1 := by rw [← hH2, Heap.size_push]
  have hDC : s₂.heap.objs.size ≠ H2.objs.size := by rw [hC]; exact Nat.ne_of_lt (Nat.lt_succ_self _)
  have below : ∀ b, b < s₂.heap.objs.size → b ≠ H2.objs.size ∧ b ≠ s₂.heap.objs.size := fun b hb => ⟨by rw [hC]; exact Nat.ne_of_lt (Nat.lt_succ_of_lt hb), Nat.ne_of_lt hb⟩
  have old : ∀ b o, s₂.heap.get? b = some o → h₁.get? b = some o := fun b o e => hsb₁.extBut b o (below b (Heap.lt_size e)).1 (Heap.get?_push_of_some _ (hH2 ▸ Heap.get?_push_of_some _ e))
  have hacc : h₁.get? s₂.heap.objs.size = some (lst []) := hsb₁.extBut _ _ hDC (Heap.get?_push_of_some _ (hH2 ▸ Heap.get?_push_size _ rfl))
  have fresh : ∀ a, s₂.heap.objs.size ≤ a → s₂.heap.get? a = none := fun a ha => by
    cases e : s₂.heap.get? a with
    | none => rfl
    | some o' => exact absurd (Heap.lt_size e) (Nat.not_lt.mpr ha)
  have fresh₀ : ∀ a, s₂.heap.objs.size ≤ a → h₀.get? a = none := fun a ha => by
    cases e : h₀.get? a with
    | none => rfl
    | some o' => have := F.keep a o' e; rw [fresh a ha] at this; cases this
  have hD₀ : h₀.get? s₂.heap.objs.size = none := fresh₀ _ (Nat.le_refl _)
  have hC₀ : h₀.get? H2.objs.size = none := fresh₀ _ (by rw [hC]; exact Nat.le_succ _)
  have hLlt : L < s₂.heap.objs.size := F.ns.lt
  have hDL : s₂.heap.objs.size ≠ L := Ne.symm (below L hLlt).2
  have hCL : H2.objs.size ≠ L := Ne.symm (below L hLlt).1
  obtain ⟨its₀, oz, oTI, oTO, o1, o2, hits₀, gz, gTI, gTO, g1, g2⟩ := st_it hst
  have hfp : ∀ q ∈ [z, TI, TO, i1, i2], q < s₂.heap.objs.size := by
    intro q hq
    simp only [List.mem_cons, List.not_mem_nil, or_false] at hq
    rcases hq with rfl | rfl | rfl | rfl | rfl
    · exact Heap.lt_size gz
    · exact Heap.lt_size gTI
    · exact Heap.lt_size gTO
    · exact Heap.lt_size g1
    · exact Heap.lt_size g2
  have hwr : ∀ q ∈ [z, TO, i1, i2], q ∈ [z, TI, TO, i1, i2] := by
    intro q hq
    simp only [List.mem_cons, List.not_mem_nil, or_false] at hq ⊢
    rcases hq with rfl | rfl | rfl | rfl <;> simp
  have hLw : L ∉ [z, TO, i1, i2] := fun hm => (hfresh L (hwr L hm)).2.1 rfl
  have h0w : ∀ q ∈ [z, TO, i1, i2], h₀.get? q = none := fun q hq => (hfresh q (hwr q hq)).1
  have hCw : H2.objs.size ∉ [z, TO, i1, i2] := fun hm => (below _ (hfp _ (hwr _ hm))).1 rfl
  have hDw : s₂.heap.objs.size ∉ [z, TO, i1, i2] := fun hm => (below _ (hfp _ (hwr _ hm))).2 rfl
  have hnw : ∀ p ∈ ((s₂.heap.objs.size, lst []) :: news : List (Addr × Obj)), ∀ ys : List Value, True := fun _ _ _ => trivial
  have offw : ∀ (ys : List Value), ∀ p ∈ (s₂.heap.objs.size, lst ys) :: news, p.1 ∉ [z, TO, i1, i2] := by
    intro ys p hp hm
    rcases List.mem_cons.mp hp with rfl | hp
    · exact hDw hm
    · exact (hfresh _ (hwr _ hm)).2.2 p hp rfl
  have offC : ∀ (ys : List Value), ∀ p ∈ (s₂.heap.objs.size, lst ys) :: news, p.1 ≠ H2.objs.size := by
    intro ys p hp
    rcases List.mem_cons.mp hp with rfl | hp
    · exact hDC
    · exact (below _ (Heap.lt_size (N p hp).1)).1
  have offD : ∀ p ∈ news, p.1 ≠ s₂.heap.objs.size := fun p hp => (below _ (Heap.lt_size (N p hp).1)).2
  have W := WalksT.zip2 (prog := prog) (w := w) (A := A) hh z TI TO i1 i2 l1 l2 D vs.toArray ws.toArray
  have hn : min vs.toArray.size ws.toArray.size = xs.length := by
    rw [List.size_toArray, List.size_toArray, hi.length, hw.length, hlen, Nat.min_self]
  rw [hn] at W
  have loop : ∀ s₃ : Shared, s₃ = { s₂ with heap := h₁, toks := s₂.toks + ([] : List (Str × Value)).length } →
      codeAny (model prog w) A (.compLoop (.ListComp elt [⟨.Tuple [.Name a pa, .Name b pb] kk tp, iter, [], 0⟩] scope pos) 0 (.ref z) (.ref s₂.heap.objs.size) (compEnvC scope cl H2.objs.size env))
        (RR (.ref s₂.heap.objs.size) H2.objs.size) s₃ := by
    rintro s₃ rfl
    refine kcp_loop
      (fun k s' => ∃ h' tk i ys m', s' = { s₂ with heap := h', toks := tk } ∧ i ≤ xs.length ∧ k = xs.length + 1 - i ∧ ys.length = i ∧ StrsAre ys (List.zipWith g (ks.take i) (xs.take i)) ∧ ZSt z TI TO i1 i2 l1 l2 vs.toArray ws.toArray i h' ∧ Fr h₀ L h' m ∧ h'.Ns H2.objs.size m' ∧
        News h₀ L h' ((s₂.heap.objs.size, lst ys) :: news)) ?_ (xs.length + 1)
      ⟨h₁, _, 0, [], _, rfl, Nat.zero_le _, rfl, rfl, .nil, W.frame _ _ _ hst fun b _ o e => old b o e, F.keeps old, hns₁, fun p hp => ?_⟩
    · rintro k s' ⟨h', tk, i, ys, m', rfl, hil, rfl, hyl, hys, hst', F', hn', N'⟩
      by_cases hlt : i < xs.length
      · refine W.item i _ _ _ hlt hst' fun T vals h₂ tk₂ hP hTn hT hMid hk₂ => ?_
        refine W.go _ _ _ i T _ _ _ hMid fun h₃ hst₃ hk₃ => ?_
        obtain ⟨v₁, v₂, hv1, hv2, rfl⟩ := hP
        have hv1' : vs[i]? = some v₁ := by simpa using hv1
        have hv2' : ws[i]? = some v₂ := by simpa using hv2
        obtain ⟨n₁, t₁, rfl, hn1⟩ := hi.at i v₁ hv1'
        have hx2 : xs[i]? = some (xs[i]'hlt) := List.getElem?_eq_getElem hlt
        obtain ⟨u₁, hu⟩ := hw.get i (xs[i]'hlt) hx2
        have hu' : v₂ = .str (xs[i]'hlt) u₁ := by rw [hv2'] at hu; exact Option.some.inj hu
        subst hu'
        have up₃ : ∀ c o, c ∉ [z, TO, i1, i2] → h'.get? c = some o → h₃.get? c = some o := fun c o hc e => hk₃ c o hc (hk₂ c o hc e)
        have hT₃ : h₃.IsTuple T #[.int n₁ t₁, .str (xs[i]'hlt) u₁] := by
          obtain ⟨oT, hoT, r⟩ := hT
          exact ⟨oT, hk₃ T oT (W.apart _ _ _ hMid) hoT, r⟩
        refine kcp_assign (env := compEnvC scope cl H2.objs.size env) hh hT₃ (lookup_relabel_local hxa) (lookup_relabel_local hxb) (by simp [compEnvC, relabel, hkind]) (hn'.at' fun o e => up₃ _ o hCw e) fun h₄ tk₄ hn₄ hs₄ => ?_
        have hst₄ : ZSt z TI TO i1 i2 l1 l2 vs.toArray ws.toArray (i + 1) h₄ := W.frame _ _ _ hst₃ fun b hb o e => hs₄ b o (fun q => by
          subst q
          have hb' : H2.objs.size ∈ [z, TI, TO, i1, i2] ∨ H2.objs.size = l1 ∨ H2.objs.size = l2 := by
            simp only [List.mem_cons, List.not_mem_nil, or_false] at hb ⊢
            rcases hb with h | h | h | h | h | h | h
            · exact .inl (.inl h)
            · exact .inl (.inr (.inl h))
            · exact .inl (.inr (.inr (.inl h)))
            · exact .inl (.inr (.inr (.inr (.inl h))))
            · exact .inl (.inr (.inr (.inr (.inr h))))
            · exact .inr (.inl h)
            · exact .inr (.inr h)
          rcases hb' with h | h | h
          · exact (below _ (hfp _ h)).1 rfl
          · exact (below _ (Heap.lt_size (N _ hm1).1)).1 h.symm
          · exact (below _ (Heap.lt_size (N _ hm2).1)).1 h.symm) e
        obtain ⟨oC, heC, hoC⟩ := ns_obj hn₄
        have F₄ : Fr h₀ L h₄ m := by
          have F₃ := fr_wr F' up₃ hLw h0w
          exact ⟨F₃.ns.at' fun o e => hs₄ _ o (Ne.symm hCL) e, fun c o e => hs₄ c o (fun q => by have q' : c = H2.objs.size := q; rw [q', hC₀] at e; cases e) (F₃.keep c o e), F₃.above⟩
        have N₃ := news_wr N' up₃ (offw ys)
        obtain ⟨its, oz', oTI', oTO', o1', o2', hits, gz', gTI', gTO', g1', g2'⟩ := st_it hst₄
        have N₄ : News h₀ L h₄ ((H2.objs.size, oC) :: (s₂.heap.objs.size, lst ys) :: (its ++ news)) := fun q hq => by
          rcases List.mem_cons.mp hq with rfl | hq
          · exact ⟨heC, hCL, hC₀⟩
          · have base : ∀ q ∈ (s₂.heap.objs.size, lst ys) :: news, h₄.get? q.1 = some q.2 ∧ q.1 ≠ L ∧ h₀.get? q.1 = none := fun q hq => ⟨hs₄ _ _ (offC ys q hq) (N₃ q hq).1, (N₃ q hq).2⟩
            rcases List.mem_cons.mp hq with rfl | hq
            · exact base _ (.head _)
            · rcases List.mem_append.mp hq with hq | hq
              · have fr5 : ∀ c ∈ [z, TI, TO, i1, i2], c ≠ L ∧ h₀.get? c = none := fun c hc => ⟨Ne.symm (hfresh c hc).2.1, (hfresh c hc).1⟩
                subst hits
                simp only [List.mem_cons, List.not_mem_nil, or_false] at hq
                rcases hq with rfl | rfl | rfl | rfl | rfl
                · exact ⟨gz', fr5 _ (by simp)⟩
                · exact ⟨gTI', fr5 _ (by simp)⟩
                · exact ⟨gTO', fr5 _ (by simp)⟩
                · exact ⟨g1', fr5 _ (by simp)⟩
                · exact ⟨g2', fr5 _ (by simp)⟩
              · exact base _ (.tail _ hq)
        refine wpAny_mono (turn n₁ (xs[i]'hlt) t₁ u₁ H2.objs.size s₂.heap.objs.size oC ys its _ h₄ _ _ (List.mem_of_getElem? hn1) (List.getElem_mem hlt) hoC (by simp [hab]) (by simp) F₄ N₄) (fun y s₅ h₅ => ?_) fun _ _ e => e
        obtain ⟨h₅, tk₅, t₅, rfl, F₅, N₅, rfl⟩ := h₅
        have zC := (N₅ (H2.objs.size, oC) (.head _)).1
        have zD := (N₅ (s₂.heap.objs.size, lst ys) (.tail _ (.head _))).1
        have N₅' : News h₀ L h₅ news := fun q hq => N₅ q (.tail _ (.tail _ (List.mem_append_right _ hq)))
        have hst₅ : ZSt z TI TO i1 i2 l1 l2 vs.toArray ws.toArray (i + 1) h₅ := W.frame _ _ _ hst₄ fun b hb o e => by
          have hit : ∀ q ∈ its, h₅.get? q.1 = some q.2 := fun q hq => (N₅ q (.tail _ (.tail _ (List.mem_append_left _ hq)))).1
          subst hits
          simp only [List.mem_cons, List.not_mem_nil, or_false] at hb
          rcases hb with rfl | rfl | rfl | rfl | rfl | rfl | rfl
          · exact get_same gz' (hit _ (.head _)) o e
          · exact get_same gTI' (hit _ (.tail _ (.head _))) o e
          · exact get_same gTO' (hit _ (.tail _ (.tail _ (.head _)))) o e
          · exact get_same g1' (hit _ (.tail _ (.tail _ (.tail _ (.head _))))) o e
          · exact get_same g2' (hit _ (.tail _ (.tail _ (.tail _ (.tail _ (.head _)))))) o e
          · exact get_same (N₄ _ (.tail _ (.tail _ (List.mem_append_right _ hm1)))).1 (N₅' _ hm1).1 o e
          · exact get_same (N₄ _ (.tail _ (.tail _ (List.mem_append_right _ hm2)))).1 (N₅' _ hm2).1 o e
        refine append_at (hsz := by show ys.toArray.size ≤ sizeLine; rw [List.size_toArray, hyl, sizeLine_eq]; omega) zD fun h₆ hs₆ hD₆ => ?_
        refine ⟨xs.length + 1 - (i + 1), by omega, h₆, tk₅, i + 1, ys ++ [.str (g n₁ (xs[i]'hlt)) t₅], _, rfl, hlt, rfl, by rw [List.length_append, List.length_singleton, hyl], ?_, W.frame _ _ _ hst₅ fun b hb o e => hs₆.extBut b o (fun q => by
            subst q
            have hb' : s₂.heap.objs.size ∈ [z, TI, TO, i1, i2] ∨ s₂.heap.objs.size = l1 ∨ s₂.heap.objs.size = l2 := by
              simp only [List.mem_cons, List.not_mem_nil, or_false] at hb ⊢
              rcases hb with h | h | h | h | h | h | h
              · exact .inl (.inl h)
              · exact .inl (.inr (.inl h))
              · exact .inl (.inr (.inr (.inl h)))
              · exact .inl (.inr (.inr (.inr (.inl h))))
              · exact .inl (.inr (.inr (.inr (.inr h))))
              · exact .inr (.inl h)
              · exact .inr (.inr h)
            rcases hb' with h | h | h
            · exact (below _ (hfp _ h)).2 rfl
            · exact offD _ hm1 h.symm
            · exact offD _ hm2 h.symm) e, F₅.change hs₆ hDL hD₀,
          (hoC.ns zC).sameBut hs₆ (Ne.symm hDC), fun q hq => ?_⟩
        · rw [zip_snoc hn1 hx2]
          exact StrsAre.append' hys (.cons _ _ .nil)
        · rcases List.mem_cons.mp hq with rfl | hq
          · exact ⟨hD₆.trans (congrArg some (lst_snoc ys _)), hDL, hD₀⟩
          · exact ⟨hs₆.extBut _ _ (offD q hq) (N₅' q hq).1, (N₅' q hq).2⟩
      · have hin : i = xs.length := Nat.le_antisymm hil (Nat.not_lt.mp hlt)
        subst hin
        refine W.done _ _ _ hst' fun h₂ tk₂ hk₂ => ?_
        rw [List.take_length, ← hlen, List.take_length] at hys
        exact hRR _ _ h₂ tk₂ _ ys (fr_wr F' hk₂ hLw h0w) (news_wr N' hk₂ (offw ys)) (fun p hp => Heap.lt_size (N p hp).1) (hn'.at' fun o e => hk₂ _ o hCw e) hC₀ hCL (Ne.symm hDC) (fun p hp => offC ys p (.tail _ hp)) hys
    · rcases List.mem_cons.mp hp with rfl | hp
      · exact ⟨hacc, hDL, hD₀⟩
      · exact ⟨old _ _ (N p hp).1, (N p hp).2⟩
  exact codeAny_compStart_list (loop _ rfl) (W.self 0 _ _ _ (W.frame _ _ _ hst fun b _ o e => old b o e) (loop _ rfl))
def ZSrc (prog : Program) (w : World) (A : Around) (h₀ : Heap) (L : Addr) (m : Str → Option Value) (env : Env) (elt : PySem.Expr) (a b : Str) (scope : Scope) (cl : List (Str × Addr)) (Q : Value → Shared → Prop) (xv : Value) (s₁ : Shared) : Prop :=
  ∃ (z TI TO i1 i2 l1 l2 : Addr) (ol1 ol2 : Obj) (vs ws : List Value) (ks : List Int) (xs : List Str) (g : Int → Str → Str) (news : List (Addr × Obj)), xv = .ref z ∧ A.handled = none ∧ ZipApart z TI TO i1 i2 l1 l2 ∧ IntsAre vs ks ∧ StrsAre ws xs ∧ ks.length = xs.length ∧ xs.length ≤ 100000 ∧
    ZSt z TI TO i1 i2 l1 l2 vs.toArray ws.toArray 0 s₁.heap ∧ (∀ q ∈ [z, TI, TO, i1, i2], h₀.get? q = none ∧ L ≠ q ∧ ∀ p ∈ news, p.1 ≠ q) ∧ (l1, ol1) ∈ news ∧ (l2, ol2) ∈ news ∧ Fr h₀ L s₁.heap m ∧ News h₀ L s₁.heap news ∧
    (∀ (k : Int) (x : Str) (t u : Tok) (C Dl : Addr) (oC : Obj) (ys : List Value) (its : List (Addr × Obj)) (m₂ : Str → Option Value) (h : Heap) (tk : Nat) (E' : Value → Shared → Prop), k ∈ ks → x ∈ xs → NsObj oC m₂ → m₂ a = some (.int k t) → m₂ b = some (.str x u) → Fr h₀ L h m →
      News h₀ L h ((C, oC) :: (Dl, lst ys) :: (its ++ news)) → wpAny (model prog w) A (eval elt (compEnvC scope cl C env)) (ZEnd h₀ L m { s₁ with heap := h, toks := tk } ((C, oC) :: (Dl, lst ys) :: (its ++ news)) (g k x)) E' { s₁ with heap := h, toks := tk }) ∧
    (∀ Dl h tk ys, Fr h₀ L h m → News h₀ L h ((Dl, lst ys) :: news) → (∀ p ∈ news, p.1 < Dl) → StrsAre ys (List.zipWith g ks xs) → Q (.ref Dl) { s₁ with heap := h, toks := tk })
theorem zc_src {s : Shared} {elt : PySem.Expr} {a b : Str} {scope : Scope} {cl : List (Str × Addr)} {Q : Value → Shared → Prop} {l1 l2 : Addr} {ol1 ol2 : Obj} {c1 c2 : Nat} {vs ws : List Value} {ks : List Int} {xs : List Str} (g : Int → Str → Str) {news : List (Addr × Obj)}
    (hh : A.handled = none) (F : Fr h₀ L s.heap m) (N : News h₀ L s.heap news) (hm1 : (l1, ol1) ∈ news) (e1 : ol1.cls = .type "list" ∧ ol1.data = .seq vs.toArray c1) (hm2 : (l2, ol2) ∈ news) (e2 : ol2.cls = .type "list" ∧ ol2.data = .seq ws.toArray c2)
    (hi : IntsAre vs ks) (hw : StrsAre ws xs) (hlen : ks.length = xs.length) (hsz : xs.length ≤ 100000)
    (turn : ∀ (k : Int) (x : Str) (t u : Tok) (C Dl : Addr) (oC : Obj) (ys : List Value) (its : List (Addr × Obj)) (m₂ : Str → Option Value) (h : Heap) (tk : Nat) (E' : Value → Shared → Prop), k ∈ ks → x ∈ xs → NsObj oC m₂ → m₂ a = some (.int k t) → m₂ b = some (.str x u) → Fr h₀ L h m →
      News h₀ L h ((C, oC) :: (Dl, lst ys) :: (its ++ news)) → wpAny (model prog w) A (eval elt (compEnvC scope cl C env)) (ZEnd h₀ L m { s with heap := h, toks := tk } ((C, oC) :: (Dl, lst ys) :: (its ++ news)) (g k x)) E' { s with heap := h, toks := tk })
    (fin : ∀ Dl h tk ys, Fr h₀ L h m → News h₀ L h ((Dl, lst ys) :: news) → (∀ p ∈ news, p.1 < Dl) → StrsAre ys (List.zipWith g ks xs) → Q (.ref Dl) { s with heap := h, toks := tk }) :
    wpAny (model prog w) A (call (.type "zip") [.ref l1, .ref l2]) (ZSrc prog w A h₀ L m env elt a b scope cl Q) E s := by
  have hl1 : s.heap.IsList l1 vs.toArray := ⟨ol1, (N _ hm1).1, e1.1, c1, e1.2⟩
  have hl2 : s.heap.IsList l2 ws.toArray := ⟨ol2, (N _ hm2).1, e2.1, c2, e2.2⟩
  have hlt1 : l1 < s.heap.objs.size := Heap.lt_size (N _ hm1).1
  have hlt2 : l2 < s.heap.objs.size := Heap.lt_size (N _ hm2).1
  have D := ktu_apart s.heap.objs.size l1 l2 hlt1 hlt2
  refine call_zip_2 hl1 hl2 fun h' hz hTI hTO hi1 hi2 hs5 hk => ?_
  refine ⟨_, _, _, _, _, l1, l2, ol1, ol2, vs, ws, ks, xs, g, news, rfl, hh, D, hi, hw, hlen, hsz, ⟨hz, hTI, ⟨_, _, hTO⟩, hi1, hi2, hl1.at fun o e => hk _ o e, hl2.at fun o e => hk _ o e⟩, ?_, hm1, hm2, F.keeps hk, fun p hp => ⟨hk _ _ (N p hp).1, (N p hp).2⟩, turn, fin⟩
  have key : ∀ q, s.heap.objs.size ≤ q → h₀.get? q = none ∧ L ≠ q ∧ ∀ p ∈ news, p.1 ≠ q := fun q hq => ⟨by
    cases e : h₀.get? q with
    | none => rfl
    | some o => exact absurd (Heap.lt_size (F.keep q o e)) (Nat.not_lt.mpr hq), Nat.ne_of_lt (Nat.lt_of_lt_of_le F.ns.lt hq), fun p hp => Nat.ne_of_lt (Nat.lt_of_lt_of_le (Heap.lt_size (N p hp).1) hq)⟩
  intro q hq
  simp only [List.mem_cons, List.not_mem_nil, or_false] at hq
  rcases hq with rfl | rfl | rfl | rfl | rfl
  · exact key _ (Nat.le_add_right _ _)
  · exact key _ (Nat.le_add_right _ _)
  · exact key _ (Nat.le_add_right _ _)
  · exact key _ (Nat.le_refl _)
  · exact key _ (Nat.le_add_right _ _)
theorem zc_ListComp {s : Shared} {elt iter : PySem.Expr} {a b : Str} {pa pb tp : Pos} {kk : Nat} {scope : Scope} {cl : List (Str × Addr)} {pos : Pos} {Q : Value → Shared → Prop} (F₀ : Fr h₀ L s.heap m)
    (hclos : closureFor scope env = pure cl) (hcell : ∀ y ∈ scope.names, y.2 ≠ .cell) (hkind : scope.kind = .function)
    (hnames : ∀ y ∈ scope.names, y.2 = .local → scope.names.lookup y.1 = some .local) (hxa : scope.names.lookup a = some .local) (hxb : scope.names.lookup b = some .local) (hab : ¬ a = b)
    (h : wpAny (model prog w) A (eval iter env) (ZSrc prog w A h₀ L m env elt a b scope cl Q) E s)
    (hs : ∀ x, foldedSetIterable iter env x = pure x := by intro _; rfl) :
    wpAny (model prog w) A (eval (.ListComp elt [⟨.Tuple [.Name a pa, .Name b pb] kk tp, iter, [], 0⟩] scope pos) env) Q E s := by
  rw [eval_ListComp]
  refine wpAny_comprehension_free (use := none) rfl hs hclos hkind hnames (wpAny_mono h (fun xv s₁ h₁ => ?_) fun _ _ e => e)
  obtain ⟨z, TI, TO, i1, i2, l1, l2, ol1, ol2, vs, ws, ks, xs, g, news, rfl, hh, D, hi, hw, hlen, hsz, hst, hfresh, hm1, hm2, F, N, turn, fin⟩ := h₁
  refine wpAny_pyIter_zip hst.1 ?_
  refine zc_block hh D hi hw hlen hsz hst hfresh hm1 hm2 hcell hkind hxa hxb hab F N turn ?_
  intro Dl C h tk m' ys F' N' l1' hn hC₀ hCL hCD offC hys
  refine ⟨m', hn, fun h'' hs'' => fin Dl h'' tk ys (F'.change hs'' hCL hC₀) (fun p hp => ?_) l1' hys⟩
  refine ⟨hs''.extBut _ _ ?_ (N' p hp).1, (N' p hp).2⟩
  rcases List.mem_cons.mp hp with rfl | hp
  · exact Ne.symm hCD
  · exact offC p hp
end
end Zc
end Mine
end
section
open PySem PySem.W PyProof.Rows
set_option maxRecDepth 100000
set_option maxHeartbeats 8000000
namespace Mine
open L1 Tk Zc
theorem news_tail {h₀ h : Heap} {L : Addr} {a b c d e f : Addr × Obj} {news : List (Addr × Obj)} (N : News h₀ L h (a :: b :: c :: d :: e :: f :: news)) : News h₀ L h news := fun p hp => N p (by simp [hp])
theorem lf_len : (Str.ofString "\n").length ≤ 1 := by decide +kernel
section
variable {prog : Program} {w : World} {A : Around} {E : Value → Shared → Prop} {s : Shared} {h₀ : Heap} {L : Addr} {m : Str → Option Value} {news : List (Addr × Obj)} {x y : Str} {t u : Tok} {Q : Value → Shared → Prop}
theorem splitA (hF : Fr h₀ L s.heap m) (hN : News h₀ L s.heap news) (hy : (y.length == 0) = false) (hx : x.length ≤ 100)
    (h : ∀ D vs rows h' k, rows = Txt.split x y → StrsAre vs rows → 1 ≤ rows.length → rows.length ≤ 102 → (∀ r ∈ rows, r.length ≤ 100) → Fr h₀ L h' m → News h₀ L h' ((D, listOf vs.toArray 0) :: news) → (∀ p ∈ news, p.1 < D) → Q (.ref D) { s with heap := h', toks := k }) :
    wpAny (model prog w) A (call (.builtin "str.split") [.str x t, .str y u]) Q E s :=
  splitN1A hF hN hy (fun l h' k e a hs hl F N => h _ _ _ h' k e a (by
    rw [e]
    unfold Txt.split
    repeat' split
    · simp
    · simp
    · rw [length_partsBetween]; omega) (by
    rw [e]
    have h1 := StrLaws.occ_length_le_len x y 0 x.length (x.length + 1)
    unfold Txt.split
    repeat' split
    · simp
    · simp
    · rw [length_partsBetween]
      have h2 := StrLaws.occ_length_le x y 0 x.length (x.length + 1)
      omega) (fun r hr => Nat.le_trans (hs r hr) hx) F N fun p hp => Heap.lt_size (hN p hp).1) (by rw [sizeLine_eq]; omega)
theorem mulA {l : Addr} {tt : Int} {tu : Tok} {n : Nat} (F : Fr h₀ L s.heap m) (N : News h₀ L s.heap news) (hl : s.heap.IsList l #[.int tt tu]) (hn : 1 ≤ n) (hn2 : n ≤ 200)
    (h : ∀ D ws h', IntsAre ws (List.replicate (n - 1) tt) → Fr h₀ L h' m → News h₀ L h' ((D, listOf ws.toArray 0) :: news) → (∀ p ∈ news, p.1 < D) → Q (.ref D) { s with heap := h' }) : wpAny (model prog w) A (binaryOp .Mult (.ref l) (.int ((n : Int) - 1) u)) Q E s := by
  have key : ∀ j : Nat, (List.replicate j [Value.int tt tu]).flatten = List.replicate j (Value.int tt tu) := by
    intro j
    induction j with
    | zero => rfl
    | succ j ih => rw [List.replicate_succ, List.flatten_cons, ih, List.replicate_succ]; rfl
  have hints : ∀ j : Nat, IntsAre (List.replicate j (Value.int tt tu)) (List.replicate j tt) := by
    intro j
    induction j with
    | zero => exact .nil
    | succ j ih => exact .cons _ _ ih
  have e : ((n : Int) - 1).toNat = n - 1 := by omega
  refine KMa.mul (vs := [.int tt tu]) (ws := List.replicate (n - 1) (.int tt tu)) F N hl (by omega) (by omega) (by rw [e]; simp; omega) (by rw [e]; exact key _) (fun D h' F' N' l1 => h D _ h' (hints _) F' N' l1)
theorem addL {a b : Addr} {vs ws : List Value} {ns ms : List Int} (F : Fr h₀ L s.heap m) (N : News h₀ L s.heap news) (ha : s.heap.IsList a vs.toArray) (hb : s.heap.IsList b ws.toArray) (hi : IntsAre vs ns) (hj : IntsAre ws ms) (hz : ns.length + ms.length ≤ 1000)
    (h : ∀ D us h', Fr h₀ L h' m → News h₀ L h' ((D, listOf (List.toArray us) 0) :: news) → (∀ p ∈ news, p.1 < D) → IntsAre us (ns ++ ms) → Q (.ref D) { s with heap := h' }) :
    wpAny (model prog w) A (binaryOp .Add (.ref a) (.ref b)) Q E s := kmk_add_ints F N ha hb hi hj h (by rw [sizeLine_eq]; omega)
theorem lenS {l : Addr} {vs : List Value} {rows : List Str} (hl : s.heap.IsList l vs.toArray) (hw : StrsAre vs rows) (hn : rows.length ≤ 1000000) (h : ∀ (t' : Tok) (k : Nat), s.toks ≤ k → Q (.int (rows.length : Int) t') { s with toks := k }) :
    wpAny (model prog w) A (call (.builtin "len") [.ref l]) Q E s := by
  have e := hw.length
  refine len_list hl (by rw [List.size_toArray]; omega) ?_
  rw [List.size_toArray, e]
  exact h _ _ (by omega)
end
local macro_rules | `(tactic| walk_at "execs cons") => `(tactic| ((with_reducible refine wpAny_execs_cons ?_); try dsimp only))
local macro_rules | `(tactic| walk_at "execs nil") => `(tactic| ((with_reducible refine wpAny_execs_nil ?_); try dsimp only))
theorem one_int {f : Int} {t : Tok} : IntsAre [.int f t] [f] := .cons _ _ .nil
theorem rowS_yes {k : Int} {r : Str} (hc : (Txt.slice r none (some 1) == Str.ofString ".") = true) : Txt.mul (Str.ofString ".") k ++ r = rowS k r := by unfold rowS; rw [hc]; rfl
theorem rowS_no {k : Int} {r : Str} (hc : (Txt.slice r none (some 1) == Str.ofString ".") = false) : r = rowS k r := by unfold rowS; rw [hc]; rfl
theorem row_le {rows : List Str} {r : Str} (h : ∀ r ∈ rows, r.length ≤ 100) (hr : r ∈ rows) : r.length ≤ 100 := h r hr
theorem k_bnd {f n k : Int} {j : Nat} (h : k ∈ [f] ++ List.replicate j n) (hf0 : 0 ≤ f) (hf1 : f ≤ 20) (hn0 : 0 ≤ n) (hn1 : n ≤ 20) : 0 ≤ k ∧ k ≤ 20 := by
  rcases List.mem_append.mp h with h | h
  · rw [List.mem_singleton.mp h]; exact ⟨hf0, hf1⟩
  · rw [(List.mem_replicate.mp h).2]; exact ⟨hn0, hn1⟩
section
variable {prog : Program} {w : World} {A : Around} {E : Value → Shared → Prop} {s : Shared} {Q : Value → Shared → Prop}
theorem mulR {f n k : Int} {j : Nat} {t u : Tok} (hm : k ∈ [f] ++ List.replicate j n) (hf0 : 0 ≤ f) (hf1 : f ≤ 20) (hn0 : 0 ≤ n) (hn1 : n ≤ 20) (h : ∀ (t' : Tok) (q : Nat), s.toks ≤ q → (Txt.mul (Str.ofString ".") k).length ≤ 20 → Q (.str (Txt.mul (Str.ofString ".") k) t') { s with toks := q }) :
    wpAny (model prog w) A (binaryOp .Mult (.str (Str.ofString ".") t) (.int k u)) Q E s := by
  have hb := k_bnd hm hf0 hf1 hn0 hn1
  refine mulP hb.1 (by omega) (fun t' q hq h1 h2 => ?_)
  have := h t' q hq (by rw [mul_dots]; omega)
  rw [mul_dots] at this
  exact this
end
theorem zip_len {S : List Str} {f t : Int} (h : 1 ≤ S.length) : ([f] ++ List.replicate (S.length - 1) t).length = S.length := by simp; omega
theorem lf_split {x : Str} {rows : List Str} (h : rows = Txt.split (Txt.replace (Txt.replace x (Str.ofString "\x0d\n") (Str.ofString "\n")) (Str.ofString "\x0d") (Str.ofString "\n")) (Str.ofString "\n")) : rows = rowsS x := h
local macro_rules | `(tactic| walk_at "call builtin:str.replace") => `(tactic| (k_here; k_dflt (refine' replaceP 1 ?kz ?ku ?kv ?kw ?ky ?kb ?_; (case kz => exact lf_len); (case ku => first | omega | (dsimp only; omega)); (case kv => first | omega | (dsimp only; omega)); (case kw => first | omega | (dsimp only; omega)); (case ky => decide +kernel); (case kb => omega)); intro t9 k9 hk9 hl9; (try dsimp only at hk9)))
local macro_rules | `(tactic| walk_at "call builtin:str.split") => `(tactic| (k_here; k_dflt ((refine' splitA ?kF ?kN ?ky ?kx ?_); (case kF => k_asm); (case kN => k_asm); (case ky => decide +kernel); (case kx => omega)); intro D' ws' rows h' k9 hrows hS hr1 hr2 hr3 F' N' l1; (try k_lt l1); (try k_sweep); (try dsimp only)))
local macro_rules | `(tactic| walk_at "call builtin:len") => `(tactic| (k_here; (with_reducible show wpAny _ _ (call (Value.builtin "len") [Value.ref _]) _ _ _); k_dflt (refine' lenS ?k1 ?k2 ?k3 ?_; (case k1 => exact News.isList (by k_asm) (by k_mem)); (case k2 => assumption); (case k3 => omega)); intro t9 k9 hk9; (try dsimp only at hk9); (try dsimp only)))
local macro_rules | `(tactic| walk_at "binaryOp Mult ref int") => `(tactic| (k_here; (with_reducible show wpAny _ _ (binaryOp Operator.Mult (Value.ref _) (Value.int _ _)) _ _ _); k_dflt ((refine' mulA ?kF ?kN ?kl ?k1 ?k2 ?_); (case kF => k_asm); (case kN => k_asm); (case kl => exact News.isList (by k_asm) (by k_mem)); (case k1 => assumption); (case k2 => omega)); intro D' ws' h' hI' F' N' l1; (try k_lt l1); (try k_sweep); (try dsimp only)))
local macro_rules | `(tactic| walk_at "binaryOp Add ref ref") => `(tactic| (k_here; (with_reducible show wpAny _ _ (binaryOp _ (Value.ref _) (Value.ref _)) _ _ _); k_dflt ((refine' addL ?kF ?kN ?ka ?kb ?ki ?kj ?kz ?_); (case kF => k_asm); (case kN => k_asm); (case ka => exact News.isList (by k_asm) (by k_mem)); (case kb => exact News.isList (by k_asm) (by k_mem)); (case ki => exact one_int); (case kj => assumption); (case kz => (simp only [List.length_cons, List.length_nil, List.length_replicate]; omega))); intro D' us' h' F' N' l1 hI'; (try k_lt l1); (try k_sweep); (try dsimp only)))
theorem row_len (k : Int) (r : Str) (hk : k ≤ 20) (hr : r.length ≤ 100) : (rowS k r).length ≤ 120 := by
  unfold rowS
  split
  · rw [Str.length_append, mul_dots, L2.dotsS_len]; omega
  · omega
theorem zip_sum : ∀ (ks : List Int) (rows : List Str), (∀ k ∈ ks, k ≤ 20) → (∀ r ∈ rows, r.length ≤ 100) → ((List.zipWith rowS ks rows).map (·.length)).sum ≤ rows.length * 120
  | [], rows, _, _ => by simp
  | k :: ks, [], _, _ => by simp
  | k :: ks, r :: rows, hk, hr => by
    have h1 := zip_sum ks rows (fun x hx => hk x (.tail _ hx)) (fun x hx => hr x (.tail _ hx))
    have h2 := row_len k r (hk k (.head _)) (hr r (.head _))
    simp only [List.zipWith_cons_cons, List.map_cons, List.sum_cons, List.length_cons]
    omega
section
variable {prog : Program} {w : World} {A : Around} {E : Value → Shared → Prop} {s : Shared} {Q : Value → Shared → Prop}
theorem joinZ {D : Addr} {ys : List Value} {rows : List Str} {x : Str} {f n : Int} {t : Tok} (hl : s.heap.IsList D ys.toArray) (hy : StrsAre ys (List.zipWith rowS ([f] ++ List.replicate (rows.length - 1) n) rows)) (hr : ∀ r ∈ rows, r.length ≤ 100) (hn : rows.length ≤ 102) (hf : f ≤ 20) (hn0 : n ≠ 0) (hn1 : 0 ≤ n) (hn2 : n ≤ 20)
    (hrows : rows = rowsS x) (h : ∀ (t' : Tok) (k : Nat), s.toks ≤ k → Q (.str (sentS x f n) t') { s with toks := k }) : wpAny (model prog w) A (call (.builtin "str.join") [.str (Str.ofString "\x0d\n") t, .ref D]) Q E s := by
  refine grown (join_list hl hy ?_ (fun t' k hk => ?_))
  · have h1 := zip_sum ([f] ++ List.replicate (rows.length - 1) n) rows (by
      intro k hk
      rcases List.mem_append.mp hk with hk | hk
      · rw [List.mem_singleton.mp hk]; exact hf
      · rw [(List.mem_replicate.mp hk).2]; exact hn2) hr
    have h2 : (List.zipWith rowS ([f] ++ List.replicate (rows.length - 1) n) rows).length ≤ rows.length := by rw [List.length_zipWith]; omega
    have h3 : (Str.ofString "\x0d\n").length = 2 := by decide +kernel
    rw [h3]
    omega
  · subst hrows
    have := sent_join x f n hn0 hn1
    rw [show f :: List.replicate ((rowsS x).length - 1) n = [f] ++ List.replicate ((rowsS x).length - 1) n from rfl] at this
    have e : Txt.join (Str.ofString "\x0d\n") (List.zipWith rowS ([f] ++ List.replicate ((rowsS x).length - 1) n) (rowsS x)) = sentS x f n := (StrLaws.glued_eq_join _ _).trans this
    rw [e]
    exact h t' k hk
end
local macro_rules | `(tactic| walk_at "eval ListComp") => `(tactic| (k_here; (rename Fr _ _ _ _ => lF'); k_dflt (refine zc_ListComp lF' (by rfl) (by decide) (by rfl) (by decide) (by rfl) (by rfl) (by first | decide | decide +kernel) ?_)))
local macro_rules | `(tactic| walk_at "call type:zip") => `(tactic| (k_here; k_dflt ((refine' zc_src rowS ?hh ?F ?N ?m1 ?e1 ?m2 ?e2 ?hi ?hw ?hl ?hz ?_ ?_); (case hh => exact rfl); (case F => k_asm); (case N => k_asm); (case m1 => k_mem); (case m2 => k_mem); (case e1 => exact ⟨rfl, rfl⟩); (case e2 => exact ⟨rfl, rfl⟩); (case hi => assumption); (case hw => assumption); (case hl => exact zip_len (by assumption)); (case hz => omega))))
local macro_rules | `(tactic| walk_at "binaryOp Mult str int") => `(tactic| (k_here; k_dflt (refine' mulR ?k1 ?k2 ?k3 ?k4 ?k5 ?_; (case k1 => assumption); (case k2 => assumption); (case k3 => assumption); (case k4 => assumption); (case k5 => assumption)); intro t9 k9 hk9 hl9; (try dsimp only at hk9); (try dsimp only)))
local macro_rules | `(tactic| walk_at "binaryOp Add str str") => `(tactic| (k_here; k_dflt (refine' addP 20 ?k1 ?k2 ?_; (case k1 => assumption); (case k2 => (have hb9 := row_le (by assumption) (by assumption)); omega)); intro t9 k9 hk9 he9 hl9; (try dsimp only at hk9); (try dsimp only)))
local macro_rules | `(tactic| walk_at "ZEnd") => `(tactic| (k_dflt (refine' ZEnd.intro ?F ?N ?e; (case F => k_asm); (case N => k_asm); (case e => first | exact rowS_yes (by assumption) | exact rowS_no (by assumption)))))
local macro_rules | `(tactic| walk_at "call builtin:str.join") => `(tactic| (k_here; k_dflt ((refine' joinZ ?k1 ?k2 ?k3 ?k4 ?k5 ?k6 ?k7 ?k8 ?k9 ?_); (case k1 => exact News.isList (by k_asm) (by k_mem)); (case k2 => assumption); (case k3 => assumption); (case k4 => assumption); (case k5 => assumption); (case k6 => assumption); (case k7 => assumption); (case k8 => assumption); (case k9 => exact lf_split (by assumption))); intro t9 k9 hk9; (try dsimp only at hk9); (try dsimp only)))
theorem law_sent_c (w : World) (mean : ExcName → Option Value) (mg mb : Str → Option Value) (x : Str) (t : Tok) (f : Int) (u : Tok) (n : Int) (v : Tok) :
    CC PySem.Challenge.rw_pg0022_01.row.prog w (Mine.hd.heap_39 w.params) Mine.hd.view_39 (looseW Mine.hd.view_39 [Str.ofString "_twin_re_1", Str.ofString "_twin_re_2"]) mean mg mb 85 (x.length ≤ 20 ∧ 0 ≤ f ∧ f ≤ 20 ∧ 0 ≤ n ∧ n ≤ 20) [.str x t, .int f u, .int n v] (fun t => .str (sentS x f n) t) := by
  w_top off
  k_with_none
  k_fill
  dsimp only [CC]; intros; rename_i hpre _ _ hret
  obtain ⟨hx, hf0, hf1, hn0, hn1⟩ := hpre
  have hNil : IntsAre [] [] := .nil
  refine wpAny_call ?_
  k_dflt cell_enter
  k_steps
  all_goals first
    | (refine cb_retS hret ?e1 ?e2 ?e3; (case e2 => k_asm); (case e3 => first | k_asm | exact news_tail (by assumption)); (case e1 => first | rfl | (subst_vars; exact (sent_zero _ _).symm)))
    | trace_state
end Mine
end
section
open PySem PySem.W PyProof.Rows
set_option maxRecDepth 100000
set_option maxHeartbeats 8000000
namespace Mine
theorem ok2 (w : World) : nsOkIn (Mine.hd.heap_39 w.params) cStatics = true := by first | rfl | decide | (with_unfolding_all rfl)
theorem none2 (w : World) : nsIn (Mine.hd.heap_39 w.params) cStatics sharingNotToldKey = some none := by first | rfl | decide | (with_unfolding_all rfl)
theorem none_booked {w : World} {h : Heap} (X : (Mine.hd.heap_39 w.params).In h) : NoneBooked h := ⟨h.nsMap cStatics, .of_isNs (isNs_of_in X (ok2 w)), nsMap_none_of_in X (ok2 w) (none2 w)⟩
theorem NoneBooked.keeps' {h h' : Heap} (x : NoneBooked h) (k : ∀ b o, h.get? b = some o → h'.get? b = some o) : NoneBooked h' := by
  obtain ⟨mc, hn, hk⟩ := x
  exact ⟨mc, hn.keeps k, hk⟩
end Mine
end
section
open PySem PySem.W PyProof.Rows PySem.Calls PySem.Spec
set_option linter.unusedSimpArgs false
set_option linter.unusedVariables false
set_option maxRecDepth 100000
set_option maxHeartbeats 4000000
namespace Mine
namespace Ft
open Tk
section
variable {prog : Program} {w : World} {A : Around} {E : Value → Shared → Prop} {s : Shared} {h₀ : Heap} {env : Env}
/-- a turn's end: the ledger as it was, the tokens not none -/
def FtEnd (h₀ : Heap) (L : Addr) (s : Shared) (led : List (Addr × Obj)) (T : (Str → Option Value) → Prop) (f : Flow) (s' : Shared) : Prop :=
  match f with
  | .next | .cont => ∃ h' tk' m', s' = { s with heap := h', toks := tk' } ∧ Fr h₀ L h' m' ∧ News h₀ L h' led ∧ T m'
  | _ => False
theorem FtEnd.intro {L : Addr} {s₁ : Shared} {led : List (Addr × Obj)} {T : (Str → Option Value) → Prop} {h' : Heap} {tk : Nat} {m' : Str → Option Value} (F : Fr h₀ L h' m') (N : News h₀ L h' led) (hT : T m') : FtEnd h₀ L s₁ led T .next { s₁ with heap := h', toks := tk } :=
  ⟨h', tk, m', rfl, F, N, hT⟩
theorem ft_range {x : Str} {px : Pos} {body : List Stmt} {r : Addr} {a₀ b₀ : Int} {t₀ u₀ v₀ : Tok} {n : Nat} {m₀ : Str → Option Value} {news : List (Addr × Obj)} {Q : Flow → Shared → Prop} (T : Nat → (Str → Option Value) → Prop)
    (hh : A.handled = none) (hr : IsRange s.heap r a₀ b₀ 1 t₀ u₀ v₀) (hsmall : Builtin.Range.small a₀ b₀ 1 = true) (hn : Builtin.Range.rangeSize a₀ b₀ 1 = (n : Int)) (F : Fr h₀ env.locals s.heap m₀) (N : News h₀ env.locals s.heap news) (hpos : 0 < s.toks)
    (hx : env.kindOf x = some .local) (hp : (env.scope.kind == .class || (env.scope.kind == .module && env.locals != env.globals)) = false) (h0 : T 0 m₀)
    (turn : ∀ i m t I oI h tk, i < n → 0 < tk → T i m → (∀ p ∈ news, p.1 < I) → Fr h₀ env.locals h (fun y => if y = x then some (.int (a₀ + (i : Int)) t) else m y) → News h₀ env.locals h ((I, oI) :: news) →
      wpAny (model prog w) A (execs body env) (FtEnd h₀ env.locals { s with heap := h, toks := tk } ((I, oI) :: news) (T (i + 1))) E { s with heap := h, toks := tk })
    (done : ∀ m h tk, 0 < tk → T n m → Fr h₀ env.locals h m → News h₀ env.locals h news → Q .next { s with heap := h, toks := tk })
    (hE : PassesOwn (model prog w) A env E := by passes_own) :
    wpAny (model prog w) A (pyIter (.ref r)) (fun it s₂ => codeAny (model prog w) A (.forLoop (.Name x px) it body [] env) (fun r s' => match r with | .ok f => Q f s' | .error e => cameBackBy (model prog w) A env E e s') s₂) E s := by
  refine wpAny_pyIter_range hr hsmall ?_
  have hI₀ : h₀.get? s.heap.objs.size = none := by
    cases e : h₀.get? s.heap.objs.size with
    | none => rfl
    | some o => exact absurd (Heap.lt_size (F.keep _ _ e)) (Nat.lt_irrefl _)
  have hLI : env.locals ≠ s.heap.objs.size := Nat.ne_of_lt F.ns.lt
  have off : ∀ p ∈ news, p.1 < s.heap.objs.size := fun p hp => Heap.lt_size (N p hp).1
  have W := Walks.range (prog := prog) (w := w) (A := A) hh s.heap.objs.size a₀ 1 n
  generalize hI : s.heap.objs.size = I at *
  refine codeAny_forLoop
    (fun k s' => ∃ h' tk m' i, s' = { s with heap := h', toks := tk } ∧ 0 < tk ∧ IsRangeIter h' I (a₀ + (i : Nat) * 1) ((n : Int) - (i : Nat)) 1 ∧ Fr h₀ env.locals h' m' ∧ News h₀ env.locals h' news ∧ T i m' ∧ i ≤ n ∧ k = n + 1 - i) ?_ (n + 1)
    ⟨_, _, m₀, 0, rfl, hpos, by rw [hn]; simpa [hI] using Heap.get?_push_size s.heap rfl, F.push _, fun p hp => ⟨Heap.get?_push_of_some _ (N p hp).1, (N p hp).2⟩, h0, Nat.zero_le _, rfl⟩
  rintro k s' ⟨h', tk, m', i, rfl, htk, hst', F', N', hT, hi, rfl⟩
  have keepF : ∀ h₁ : Heap, (∀ b o, b ∉ [I] → h'.get? b = some o → h₁.get? b = some o) → Fr h₀ env.locals h₁ m' ∧ News h₀ env.locals h₁ news := fun h₁ hk₁ =>
    ⟨⟨F'.ns.at' fun o e => hk₁ _ o (by simpa using hLI) e, fun b o e => hk₁ b o (fun hm => by rw [List.mem_singleton.mp hm, hI₀] at e; cases e) (F'.keep b o e), F'.above⟩,
      fun p hp => ⟨hk₁ _ _ (by simpa using Nat.ne_of_lt (off p hp)) (N' p hp).1, (N' p hp).2⟩⟩
  by_cases hlt : i < n
  · refine pos_step htk (W.item i _ _ _ hlt hst' fun v h₁ tk₁ hP hst₁ hk₁ htk₁ => ?_)
    obtain ⟨F₁, N₁⟩ := keepF h₁ hk₁
    obtain ⟨t, rfl⟩ := hP
    refine pos_step (s := ⟨_, _, _, _, _⟩) htk₁ (wpAny_assign_Name (wpAny_storeName_local hx F₁.ns (fun h₂ hn₂ hs₂ htk₂ => ?_) hp))
    have F₂ := F₁.set hn₂ hs₂
    have hst₂ : IsRangeIter h₂ I (a₀ + ((i + 1 : Nat) : Int) * 1) ((n : Int) - ((i + 1 : Nat) : Int)) 1 := W.frame _ _ _ hst₁ fun b hb o e => (hs₂.2 b fun q => by rw [List.mem_singleton.mp hb] at q; exact hLI q.symm).trans e
    obtain ⟨oI, heI⟩ : ∃ oI, h₂.get? I = some oI := ⟨_, hst₂⟩
    have e1 : a₀ + (i : Int) * 1 = a₀ + (i : Int) := by omega
    rw [e1] at F₂
    have N₂ : News h₀ env.locals h₂ ((I, oI) :: news) := fun p hp => by
      rcases List.mem_cons.mp hp with rfl | hp
      · exact ⟨heI, Ne.symm hLI, hI₀⟩
      · exact (N₁.set hs₂) p hp
    have tk2 := turn i m' t I oI h₂ _ hlt htk₂ hT off F₂ N₂
    refine wpAny_mono (pos_step (s := ⟨_, _, _, _, _⟩) htk₂ (wpAny_mono (wpAny_passesOwn hE tk2) (fun f s₃ h₃ hpos₃ => (⟨h₃, hpos₃⟩ : _ ∧ 0 < s₃.toks)) fun _ _ e => e)) (fun f s₃ h₃ => ?_) fun _ _ e => e
    obtain ⟨h₃, hpos₃⟩ := h₃
    have fin : (∃ h' tk' m'', s₃ = { s with heap := h', toks := tk' } ∧ Fr h₀ env.locals h' m'' ∧ News h₀ env.locals h' ((I, oI) :: news) ∧ T (i + 1) m'') → ∃ m, m < n + 1 - i ∧ ∃ h' tk m' i, s₃ = { s with heap := h', toks := tk } ∧ 0 < tk ∧ IsRangeIter h' I (a₀ + (i : Nat) * 1) ((n : Int) - (i : Nat)) 1 ∧ Fr h₀ env.locals h' m' ∧ News h₀ env.locals h' news ∧ T i m' ∧ i ≤ n ∧ m = n + 1 - i := by
      rintro ⟨h₄, tk₄, m₄, rfl, F₄, N₄, hT₄⟩
      refine ⟨n + 1 - (i + 1), by omega, h₄, tk₄, m₄, i + 1, rfl, hpos₃, W.frame _ _ _ hst₂ fun b hb o e => ?_, F₄, fun p hp => N₄ p (.tail _ hp), hT₄, hlt, rfl⟩
      rw [List.mem_singleton.mp hb] at e ⊢
      rw [heI] at e
      cases e
      exact (N₄ (I, oI) (.head _)).1
    cases f with
    | ret v => exact h₃.elim
    | brk => exact h₃.elim
    | cont => exact fin h₃
    | next => exact fin h₃
  · have hin : i = n := by omega
    subst hin
    refine pos_step htk (W.done _ _ _ hst' fun h₁ tk₁ hk₁ htk₁ => wpAny_execs_nil ?_)
    obtain ⟨F₁, N₁⟩ := keepF h₁ hk₁
    exact done m' h₁ tk₁ htk₁ hT F₁ N₁
end
end Ft
end Mine
end
section
open PySem PySem.W PyProof.Rows
set_option maxRecDepth 100000
set_option maxHeartbeats 8000000
namespace Mine
open L1 Tk Ft
def markS (q : Int) : Str := ⟨(rep q.toNat).toArray⟩
theorem mark_len (q : Int) : (markS q).length = q.toNat := by show (rep q.toNat).toArray.size = _; simp [rep]
theorem quote_is' : Str.ofString "\"" = ⟨#[34]⟩ := by decide +kernel
section
variable {prog : Program} {w : World} {A : Around} {E : Value → Shared → Prop} {s : Shared} {Q : Value → Shared → Prop}
theorem powB {e : Int} {t u : Tok} (h0 : 0 ≤ e) (h3 : e ≤ 3) (h : ∀ (q : Int), q = 2 ^ e.toNat → 1 ≤ q → q ≤ 8 → Q (.int q s.toks) { s with toks := s.toks + 1 }) : wpAny (model prog w) A (binaryOp .Pow (.int 2 t) (.int e u)) Q E s := by
  have : e = 0 ∨ e = 1 ∨ e = 2 ∨ e = 3 := by omega
  rcases this with rfl | rfl | rfl | rfl
  all_goals exact pow_int (by decide) (by decide +kernel) (h _ rfl (by decide) (by decide))
theorem markP {q : Int} {t u : Tok} (h1 : 1 ≤ q) (h8 : q ≤ 8) (ht : @LT.lt Nat _ t s.toks) (h : ∀ (t' : Tok) (k : Nat), s.toks ≤ k → @LE.le Nat _ t t' → @LT.lt Nat _ t' k → (markS q).length ≤ 8 → Q (.str (markS q) t') { s with toks := k }) :
    wpAny (model prog w) A (binaryOp .Mult (.str (Str.ofString "\"") t) (.int q u)) Q E s := by
  have hok := mulOk_of (x := Str.ofString "\"") (n := q) 16 16 (by decide +kernel) (by omega) (by omega) (by decide) (by decide)
  have hl : (markS q).length ≤ 8 := by rw [mark_len]; omega
  refine P.mul_str hok.1 hok.2.1 hok.2.2 ?_
  rw [if_neg (by omega)]
  have hlen : ((Str.ofString "\"").length == 0) = false := by decide +kernel
  rw [hlen, Bool.or_false]
  by_cases e : q = 1
  · subst e
    rw [if_pos (by rfl)]
    have e1 : markS 1 = Str.ofString "\"" := by decide +kernel
    have := h t s.toks (Nat.le_refl _) (Nat.le_refl _) ht hl
    rw [e1] at this
    exact this
  · rw [if_neg (by simpa using e)]
    have e2 : (⟨(List.replicate q.toNat (Str.ofString "\"").cps).foldl (· ++ ·) #[]⟩ : Str) = markS q := by
      have : q = 2 ∨ q = 3 ∨ q = 4 ∨ q = 5 ∨ q = 6 ∨ q = 7 ∨ q = 8 := by omega
      rcases this with rfl | rfl | rfl | rfl | rfl | rfl | rfl <;> decide +kernel
    rw [e2]
    exact ⟨Nat.le_trans hl (by rw [sizeLine_eq]; decide), h s.toks (s.toks + 1) (Nat.le_succ _) (Nat.le_of_lt ht) (Nat.lt_succ_self _) hl⟩
theorem replaceQ {x z : Str} {t u v : Tok} (b : Nat) (hz : z.length ≤ b) (hu : @Ne Nat u 0) (hv : @Ne Nat v 0) (huv : @Ne Nat u v) (hnb : NoneBooked s.heap) (hb : x.length + (x.length + 1) * b ≤ 16777216)
    (h : ∀ (t' : Tok) (k : Nat), s.toks ≤ k → (Txt.replace x (Str.ofString "\"") z).length ≤ x.length + (x.length + 1) * b → Q (.str (Txt.replace x (Str.ofString "\"") z) t') { s with toks := k }) :
    wpAny (model prog w) A (call (.builtin "str.replace") [.str x t, .str (Str.ofString "\"") u, .str z v]) Q E s := by
  have h1 : (x.length + 1) * z.length ≤ (x.length + 1) * b := Nat.mul_le_mul_left _ hz
  refine grown (SC.replaceA hu hv huv (by omega) (fun t' k hk => h t' k hk ?_) hnb)
  have := replace_le x (Str.ofString "\"") z
  omega
end
abbrev tupO (w : Str) (t : Tok) (k : Int) (u : Tok) (n : Nat) : Obj := { cls := .type "tuple", data := .seq #[.str w t, .int k u] n }
def LayOk (w : Str) (k : Int) : Prop := w.length ≤ 20 ∧ 0 ≤ k ∧ k ≤ 20
theorem sent_ok {w : Str} {k f : Int} (h : LayOk w k) (hf0 : 0 ≤ f) (hf1 : f ≤ 20) : w.length ≤ 20 ∧ 0 ≤ f ∧ f ≤ 20 ∧ 0 ≤ k ∧ k ≤ 20 := ⟨h.1, hf0, hf1, h.2.1, h.2.2⟩
theorem norm_len (l : List Nat) : (normL l).length ≤ l.length := by
  fun_induction normL l with
  | case1 => simp
  | case2 r ih => simp; omega
  | case3 c r h1 h2 ih => simp; omega
  | case4 c r h1 h2 ih => simp; omega
theorem snd_len (t M : Nat) (ht : t ≤ M) : ∀ (l : List Nat) (st : Option Nat), (∀ d, st = some d → d ≤ M) → (sndL t st l).length ≤ l.length * (M + 2)
  | [], st, _ => by cases st <;> simp [sndL]
  | c :: l, st, hst => by
    have e : (c :: l).length * (M + 2) = l.length * (M + 2) + (M + 2) := by rw [List.length_cons, Nat.succ_mul]
    rw [e]
    have ih1 := snd_len t M ht l (some t) (fun d hd => by cases hd; exact ht)
    have ih2 := snd_len t M ht l none (fun d hd => by cases hd)
    by_cases h10 : c = 10
    · subst h10; rw [snd_nl]; simp only [List.length_cons]; omega
    · cases st with
      | none => rw [snd_in _ _ h10]; simp only [List.length_cons]; omega
      | some d =>
        have hd := hst d rfl
        by_cases h46 : c = 46
        · subst h46; rw [snd_dot]; simp only [List.length_append, List.length_replicate, List.length_cons]; omega
        · rw [snd_st _ _ _ h10 h46]; simp only [List.length_cons]; omega
theorem sent_len {w : Str} {f k : Int} (h : LayOk w k) (hf0 : 0 ≤ f) (hf1 : f ≤ 20) : (sentS w f k).length ≤ 440 := by
  obtain ⟨h1, h2, h3⟩ := h
  have e : (sentS w f k).length = (sentL w.cps.toList f.toNat k.toNat).length := by
    show (sentL w.cps.toList f.toNat k.toNat).toArray.size = _
    simp
  have hw : w.length = w.cps.toList.length := by simp [Str.length]
  rw [e]
  unfold sentL
  split
  · omega
  · have n1 := norm_len w.cps.toList
    have n2 := snd_len k.toNat 20 (by omega) (normL w.cps.toList) (some f.toNat) (fun d hd => by cases hd; omega)
    omega
section
variable {w : World} {mean : ExcName → Option Value} {mg mb : Str → Option Value} {news : List (Addr × Obj)}
    {dp un : Nat} {gd : Option (List Code)} {cn : Str} {cs : Scope} {a : Addr} {ccd : Value} {cl : List (Str × Addr)} {outer : List Env} {A₀ : Around} {base h₀ : Heap} {L : Addr} {m : Str → Option Value} {s : Shared} {Q E : Value → Shared → Prop}
theorem use_sent {x : Str} {f k : Int} {t u v : Tok} (hk : LayOk x k) (hf0 : 0 ≤ f) (hf1 : f ≤ 20)
    (B : Below A₀ base outer h₀) (F : Fr h₀ L s.heap m) (X : (Mine.hd.heap_39 w.params).In h₀) (N : News h₀ L s.heap news) (T : Top Mine.hd.view_39 (looseW Mine.hd.view_39 [Str.ofString "_twin_re_1", Str.ofString "_twin_re_2"]) mean mg mb h₀) (hkd : cs.kind = .function)
    (hd : dp + 8 < recursionLimit) (hu : un + 64 < cLine)
    (ret : ∀ (t : Tok) (h' : Heap) (tk' : Nat), s.toks ≤ tk' → (sentS x f k).length ≤ 440 → Fr h₀ L h' m → News h₀ L h' news → Q (.str (sentS x f k) t) { s with heap := h', toks := tk' }) :
    wpAny (model PySem.Challenge.rw_pg0022_01.row.prog w) (ktrTop dp un gd cn cs L a ccd cl outer) (call (.ref 85) [.str x t, .int f u, .int k v]) Q E s :=
  use_cc (law_sent_c w mean mg mb x t f u k v) B F X N T hkd (sent_ok hk hf0 hf1) hd hu (fun t' h' tk' hs F' N' => ret t' h' tk' hs (sent_len hk hf0 hf1) F' N')
end
local macro_rules | `(tactic| walk_at "call ref") => `(tactic| (k_here; (with_reducible show wpAny _ _ (call (Value.ref 85) _) _ _ _); k_dflt ((refine' use_sent ?h1 ?h2 ?h3 ?k1 ?k2 ?k3 ?k4 ?k5 ?kK ?kd ?ku ?_); (case h1 => assumption); (case h2 => first | assumption | decide); (case h3 => first | assumption | decide); (case k1 => k_asm); (case k2 => k_asm); (case k3 => k_asm); (case k4 => k_asm); (case k5 => k_asm); (case kK => first | exact rfl | assumption); (case kd => ktr_room); (case ku => ktr_units); k_whole; intro t9 h9 tk9 hs9 hl9 F9 N9; (try dsimp only at hs9); (try dsimp only); (try k_fold))))
local macro_rules | `(tactic| walk_at "execs cons") => `(tactic| ((with_reducible refine wpAny_execs_cons ?_); try dsimp only))
local macro_rules | `(tactic| walk_at "execs nil") => `(tactic| ((with_reducible refine wpAny_execs_nil ?_); try dsimp only))
local macro_rules | `(tactic| walk_at "binaryOp Pow int int") => `(tactic| (k_here; k_dflt (refine' powB ?k1 ?k2 ?_; (case k1 => omega); (case k2 => omega)); intro q9 hq9 hq1 hq8; (try dsimp only)))
local macro_rules | `(tactic| walk_at "binaryOp Mult str int") => `(tactic| (k_here; k_dflt (refine' markP ?k1 ?k2 ?k3 ?_; (case k1 => assumption); (case k2 => assumption); (case k3 => (dsimp only; omega))); intro t9 k9 hk9 ht9 htk9 hl9; (try dsimp only at hk9); (try dsimp only)))
theorem nb_of {w : World} {g h : Heap} {L : Addr} {m : Str → Option Value} (X : (Mine.hd.heap_39 w.params).In g) (F : Fr g L h m) : NoneBooked h := NoneBooked.keeps' (none_booked X) F.keep
local macro_rules | `(tactic| walk_at "call builtin:str.replace") => `(tactic| (k_here; k_dflt (refine' replaceQ 8 ?kz ?ku ?kv ?kw ?kn ?kb ?_; (case kz => assumption); (case ku => first | omega | (dsimp only; omega)); (case kv => first | omega | (dsimp only; omega)); (case kw => first | omega | (dsimp only; omega)); (case kn => exact nb_of (by k_asm) (by k_asm)); (case kb => omega)); intro t9 k9 hk9 hl9; (try dsimp only at hk9); (try dsimp only)))

abbrev SLay := Str × Int
def toL (l : SLay) : L1.Lay := (l.1.cps.toList, l.2.toNat)
/-- the text of the first layer and of the first i outside it -/
def partL (l0 : SLay) (rest : List SLay) (f : Int) (i : Nat) (k : Nat) : List Nat := whl (toL l0) f.toNat ((rest.take i).reverse.map toL) k
def partS (l0 : SLay) (rest : List SLay) (f : Int) (i : Nat) : Str := ⟨(partL l0 rest f i (2 ^ (rest.length - i))).toArray⟩
def wholeS (l0 : SLay) (rest : List SLay) (f : Int) : Str := partS l0 rest f rest.length
def TupsAt (news : List (Addr × Obj)) (vs : List Value) (lay : List SLay) : Prop := vs.length = lay.length ∧ ∀ (i : Nat) (w : Str) (k : Int), lay[i]? = some (w, k) → ∃ a t u n, vs[i]? = some (.ref a) ∧ (a, tupO w t k u n) ∈ news
section
variable {prog : Program} {w : World} {A : Around} {E : Value → Shared → Prop} {s : Shared} {h₀ : Heap} {L l : Addr} {news : List (Addr × Obj)} {Q : Value → Shared → Prop}
theorem lay_item {value slice : PySem.Expr} {vs : List Value} {lay : List SLay} {k : Int} {u : Tok} {i : Nat} {ws : Str} {n : Int} (hl : s.heap.IsList l vs.toArray) (ht : TupsAt news vs lay) (hk : k = (i : Int)) (hi : i ≤ 3) (he : lay[i]? = some (ws, n))
    (hs : subscripted slice false (.ref l) (.int k u) = operate [.ref l, .int k u] (getItem (.ref l) (.int k u)))
    (h : ∀ (a : Addr) (t' u' : Tok) (c : Nat), (a, tupO ws t' n u' c) ∈ news → Q (.ref a) s) : wpAny (model prog w) A (subscriptTail value slice (.ref l) (.int k u)) Q E s := by
  subst hk
  obtain ⟨a, t', u', c, e, hm⟩ := ht.2 i ws n he
  exact tail_any hl.typeIs slot_list_getitem.lookup (wpAny_getItem_list hl (by omega) (by omega) (x := .ref a) (by simpa using e) (h a t' u' c hm)) hs
end
theorem ft_whole {prog : Program} {w : World} {A : Around} {E : Value → Shared → Prop} {s : Shared} {h₀ : Heap} {env : Env} {px : Pos} {body : List Stmt} {r : Addr} {b₀ : Int} {t₀ u₀ v₀ : Tok} {m₀ : Str → Option Value} {news : List (Addr × Obj)} {Q : Flow → Shared → Prop} (l0 : SLay) (rest : List SLay) (f : Int)
    (hh : A.handled = none) (hr : IsRange s.heap r 1 b₀ 1 t₀ u₀ v₀) (hb : b₀ = (rest.length : Int) + 1) (h3 : rest.length ≤ 3) (F : Fr h₀ env.locals s.heap m₀) (N : News h₀ env.locals s.heap news) (hpos : 0 < s.toks)
    (hx : env.kindOf (Str.ofString "level") = some .local) (hp : (env.scope.kind == .class || (env.scope.kind == .module && env.locals != env.globals)) = false) (h0 : ∃ tt, m₀ (Str.ofString "text") = some (.str (partS l0 rest f 0) tt))
    (turn : ∀ (i : Nat) (u : Str → Option Value) (tt t : Tok) (I : Addr) (oI : Obj) (h : Heap) (tk : Nat), i < rest.length → 0 < tk → (∀ p ∈ news, p.1 < I) →
      Fr h₀ env.locals h (fun y => if y = Str.ofString "level" then some (.int (1 + (i : Int)) t) else kstB (fun z => if [Str.ofString "mark", Str.ofString "tail"].contains z then u z else m₀ z) [(Str.ofString "text", .str (partS l0 rest f i) tt)] y) → News h₀ env.locals h ((I, oI) :: news) →
      wpAny (model prog w) A (execs body env) (FtEnd h₀ env.locals { s with heap := h, toks := tk } ((I, oI) :: news) (fun m => (∃ tt, m (Str.ofString "text") = some (.str (partS l0 rest f (i + 1)) tt)) ∧ ∀ z, z ≠ Str.ofString "level" → z ≠ Str.ofString "text" → [Str.ofString "mark", Str.ofString "tail"].contains z = false → m z = m₀ z)) E { s with heap := h, toks := tk })
    (done : ∀ (u : Str → Option Value) (tt : Tok) h tk, 0 < tk → Fr h₀ env.locals h (fun y => if y = Str.ofString "level" then u y else kstB (fun z => if [Str.ofString "mark", Str.ofString "tail"].contains z then u z else m₀ z) [(Str.ofString "text", .str (wholeS l0 rest f) tt)] y) → News h₀ env.locals h news → Q .next { s with heap := h, toks := tk })
    (hE : PassesOwn (model prog w) A env E := by passes_own) :
    wpAny (model prog w) A (pyIter (.ref r)) (fun it s₂ => codeAny (model prog w) A (.forLoop (.Name (Str.ofString "level") px) it body [] env) (fun r s' => match r with | .ok f => Q f s' | .error e => cameBackBy (model prog w) A env E e s') s₂) E s := by
  have one : ∀ {m : Str → Option Value} {v : Value}, m (Str.ofString "text") = some v → ∀ p ∈ [(Str.ofString "text", v)], m p.1 = some p.2 := fun h p hp => by rw [List.mem_singleton.mp hp]; exact h
  have two : ∀ {m : Str → Option Value} {v : Value}, (∀ z, z ≠ Str.ofString "level" → z ≠ Str.ofString "text" → [Str.ofString "mark", Str.ofString "tail"].contains z = false → m z = m₀ z) → ∀ z, z ≠ Str.ofString "level" → (∀ p ∈ [(Str.ofString "text", v)], z ≠ p.1) → [Str.ofString "mark", Str.ofString "tail"].contains z = false → m z = m₀ z :=
    fun h z h1 h2 h3 => h z h1 (h2 _ (.head _)) h3
  refine ft_range (n := rest.length) (fun i m => (∃ tt, m (Str.ofString "text") = some (.str (partS l0 rest f i) tt)) ∧ ∀ z, z ≠ Str.ofString "level" → z ≠ Str.ofString "text" → [Str.ofString "mark", Str.ofString "tail"].contains z = false → m z = m₀ z)
    hh hr ?_ ?_ F N hpos hx hp ⟨h0, fun _ _ _ _ => rfl⟩ ?_ ?_ hE
  · subst hb
    exact small_one (by omega) (by omega) (by omega) (by omega)
  · subst hb
    rw [rangeSize_nat]; omega
  · rintro i m t I oI h tk hi htk ⟨⟨tt, ht⟩, hm⟩ hlt F' N'
    exact turn i m tt t I oI h tk hi htk hlt (kst_fr (one ht) (two hm) F') N'
  · rintro m h tk htk ⟨⟨tt, ht⟩, hm⟩ F' N'
    exact done m tt h tk htk (kst_frOut (one ht) (two hm) F') N'
theorem put_len (k : Nat) (hk : 1 ≤ k) (l : List Nat) : (put k l).length ≤ k * l.length := by
  induction l with
  | nil => simp [put_nil]
  | cons c l ih =>
    have e : k * (c :: l).length = k * l.length + k := by rw [List.length_cons, Nat.mul_succ]
    rw [e]
    by_cases h : c = 34
    · subst h; rw [put_mark, List.length_append]; simp only [rep, List.length_replicate]; omega
    · rw [put_other _ _ h, List.length_cons]; omega
theorem whl_len (w0 : L1.Lay) (f : Nat) (h0 : (sentL w0.1 f w0.2).length ≤ 440) : ∀ (ls : List L1.Lay) (k : Nat), 1 ≤ k → k * 2 ^ ls.length ≤ 8 → (∀ l ∈ ls, (sentL l.1 0 l.2).length ≤ 440) → (whl w0 f ls k).length ≤ 3600 * (ls.length + 1)
  | [], k, hk, h8, _ => by
    have := put_len k hk (sentL w0.1 f w0.2)
    have h9 : k * (sentL w0.1 f w0.2).length ≤ 8 * 440 := Nat.mul_le_mul (by simpa using h8) h0
    show (put k (sentL w0.1 f w0.2)).length ≤ 3600 * (0 + 1)
    omega
  | l :: ls, k, hk, h8, hl => by
    have e : 2 ^ (l :: ls).length = 2 * 2 ^ ls.length := by rw [List.length_cons, Nat.pow_succ, Nat.mul_comm]
    rw [e] at h8
    have ih := whl_len w0 f h0 ls (2 * k) (by omega) (by rw [Nat.mul_comm 2 k, Nat.mul_assoc]; exact h8) (fun x hx => hl x (.tail _ hx))
    have k8 : k ≤ 8 := by
      have : k * 1 ≤ k * (2 * 2 ^ ls.length) := Nat.mul_le_mul_left _ (by have := Nat.one_le_two_pow (n := ls.length); omega)
      omega
    have h1 := put_len k hk (sentL l.1 0 l.2)
    have h9 : k * (sentL l.1 0 l.2).length ≤ 8 * 440 := Nat.mul_le_mul k8 (hl l (.head _))
    simp only [whl, List.length_append, List.length_cons, List.length_nil, rep, List.length_replicate]
    omega
theorem sentL_len {l : SLay} {f : Int} (h : LayOk l.1 l.2) (hf0 : 0 ≤ f) (hf1 : f ≤ 20) : (sentL (toL l).1 f.toNat (toL l).2).length ≤ 440 := by
  have := sent_len h hf0 hf1
  have e : (sentS l.1 f l.2).length = (sentL l.1.cps.toList f.toNat l.2.toNat).length := by
    show (sentL l.1.cps.toList f.toNat l.2.toNat).toArray.size = _
    simp
  rw [e] at this
  exact this
theorem part_len {l0 : SLay} {rest : List SLay} {f : Int} {i : Nat} (h0 : LayOk l0.1 l0.2) (hr : ∀ l ∈ rest, LayOk l.1 l.2) (h3 : rest.length ≤ 3) (hi : i ≤ rest.length) (hf0 : 0 ≤ f) (hf1 : f ≤ 20) : (partS l0 rest f i).length ≤ 15000 := by
  have e : (partS l0 rest f i).length = (partL l0 rest f i (2 ^ (rest.length - i))).length := by
    show (partL l0 rest f i (2 ^ (rest.length - i))).toArray.size = _
    simp
  rw [e]
  have hlen : ((rest.take i).reverse.map toL).length = i := by simp; omega
  have := whl_len (toL l0) f.toNat (sentL_len h0 hf0 hf1) ((rest.take i).reverse.map toL) (2 ^ (rest.length - i)) Nat.one_le_two_pow (by
    rw [hlen, ← Nat.pow_add, show rest.length - i + i = rest.length by omega]
    exact Nat.pow_le_pow_right (by decide) h3) (by
    intro x hx
    obtain ⟨l, hl, rfl⟩ := List.mem_map.mp hx
    have hl' : l ∈ rest := List.mem_of_mem_take (List.mem_reverse.mp hl)
    exact sentL_len (f := 0) (hr l hl') (by omega) (by omega))
  rw [hlen] at this
  unfold partL
  omega
theorem mark_toList (q : Int) : (markS q).cps.toList = rep q.toNat := rfl
theorem two_toNat (e : Nat) : ((2 : Int) ^ e).toNat = 2 ^ e := L2.pow_toNat e
theorem part_zero (l0 : SLay) (rest : List SLay) (f : Int) {q : Int} (hq : q = 2 ^ ((rest.length : Int) + 1 - 1).toNat) : Txt.replace (sentS l0.1 f l0.2) (Str.ofString "\"") (markS q) = partS l0 rest f 0 := by
  apply St.str_eq
  rw [quote_is', St.replace_put, mark_toList, hq, two_toNat, show ((rest.length : Int) + 1 - 1).toNat = rest.length by omega]
  rfl
theorem h257_is : Str.ofString "257 " = ⟨#[50, 53, 55, 32]⟩ := by decide +kernel
theorem part_step (l0 : SLay) (rest : List SLay) (f : Int) {i : Nat} {w : Str} {n q : Int} (he : rest[i]? = some (w, n)) (hq : q = 2 ^ ((rest.length : Int) + 1 - 1 - (1 + (i : Int))).toNat) :
    Str.ofString "257 " ++ markS q ++ partS l0 rest f i ++ markS q ++ Txt.replace (sentS w 0 n) (Str.ofString "\"") (markS q) = partS l0 rest f (i + 1) := by
  have hi : i < rest.length := (List.getElem?_eq_some_iff.mp he).1
  apply St.str_eq
  rw [St.app_toList, St.app_toList, St.app_toList, St.app_toList, quote_is', St.replace_put, mark_toList, hq, two_toNat, show ((rest.length : Int) + 1 - 1 - (1 + (i : Int))).toNat = rest.length - (i + 1) by omega, h257_is]
  show _ = partL l0 rest f (i + 1) (2 ^ (rest.length - (i + 1)))
  unfold partL
  have e1 : (rest.take (i + 1)).reverse.map toL = toL (w, n) :: (rest.take i).reverse.map toL := by
    have : rest.take (i + 1) = rest.take i ++ [(w, n)] := by simp [List.take_add_one, he]
    rw [this]; simp
  rw [e1, whl]
  have e2 : 2 * 2 ^ (rest.length - (i + 1)) = 2 ^ (rest.length - i) := by rw [← Nat.pow_succ']; congr 1; omega
  rw [e2]
  rfl
end Mine
end
section
open PySem PySem.W PyProof.Rows
set_option maxRecDepth 100000
set_option maxHeartbeats 1200000
namespace Mine
open L1 Tk Ft
section
variable {prog : Program} {w : World} {A : Around} {E : Value → Shared → Prop} {s : Shared} {h₀ : Heap} {L l : Addr} {news : List (Addr × Obj)} {Q : Value → Shared → Prop}
def itemS (rest : List SLay) (i : Nat) : SLay := rest.getD i (Str.empty, 0)
theorem item_at {rest : List SLay} {i : Nat} (hi : i < rest.length) : rest[i]? = some ((itemS rest i).1, (itemS rest i).2) := by
  unfold itemS
  rw [List.getD_eq_getElem?_getD, List.getElem?_eq_getElem hi]; rfl
theorem news_last {h₀ h : Heap} {L : Addr} {news : List (Addr × Obj)} (N : News h₀ L h news) : News h₀ L h news := N
theorem news_cdr {h₀ h : Heap} {L : Addr} {x : Addr × Obj} {news : List (Addr × Obj)} (N : News h₀ L h (x :: news)) : News h₀ L h news := fun p hp => N p (.tail _ hp)
theorem lay_len {vs : List Value} {l0 : SLay} {rest : List SLay} (hl : s.heap.IsList l vs.toArray) (ht : TupsAt news vs (l0 :: rest)) (h3 : rest.length ≤ 3) (h : ∀ (t' : Tok) (k : Nat), s.toks ≤ k → Q (.int ((rest.length : Int) + 1) t') { s with toks := k }) :
    wpAny (model prog w) A (call (.builtin "len") [.ref l]) Q E s := by
  have e := ht.1
  rw [List.length_cons] at e
  refine len_list hl (by rw [List.size_toArray]; omega) ?_
  rw [List.size_toArray, e]
  have := h (s.toks + 1) (s.toks + 1 + 1) (by omega)
  exact this
theorem lay_first {value slice : PySem.Expr} {vs : List Value} {l0 : SLay} {rest : List SLay} {u : Tok} (hl : s.heap.IsList l vs.toArray) (ht : TupsAt news vs (l0 :: rest))
    (hs : subscripted slice false (.ref l) (.int 0 u) = operate [.ref l, .int 0 u] (getItem (.ref l) (.int 0 u)))
    (h : ∀ (a : Addr) (t' u' : Tok) (c : Nat), (a, tupO l0.1 t' l0.2 u' c) ∈ news → Q (.ref a) s) : wpAny (model prog w) A (subscriptTail value slice (.ref l) (.int 0 u)) Q E s :=
  lay_item (i := 0) hl ht rfl (by omega) rfl hs h
theorem lay_level {value slice : PySem.Expr} {vs : List Value} {l0 : SLay} {rest : List SLay} {u : Tok} {i : Nat} (hl : s.heap.IsList l vs.toArray) (ht : TupsAt news vs (l0 :: rest)) (hi : i < rest.length) (h3 : rest.length ≤ 3)
    (hs : subscripted slice false (.ref l) (.int (1 + (i : Int)) u) = operate [.ref l, .int (1 + (i : Int)) u] (getItem (.ref l) (.int (1 + (i : Int)) u)))
    (h : ∀ (a : Addr) (t' u' : Tok) (c : Nat), (a, tupO (itemS rest i).1 t' (itemS rest i).2 u' c) ∈ news → Q (.ref a) s) : wpAny (model prog w) A (subscriptTail value slice (.ref l) (.int (1 + (i : Int)) u)) Q E s :=
  lay_item (i := i + 1) (ws := (itemS rest i).1) (n := (itemS rest i).2) hl ht (by omega) (by omega) (by rw [List.getElem?_cons_succ]; exact item_at hi) hs h
theorem tup_at {a : Addr} {ws : Str} {n : Int} {t u : Tok} {c : Nat} {L₀ : Addr} (N : News h₀ L₀ s.heap news) (hm : (a, tupO ws t n u c) ∈ news) : IsTup s.heap a #[.str ws t, .int n u] := ⟨_, (N _ hm).1, rfl, c, rfl⟩
theorem tup_0 {value slice : PySem.Expr} {a : Addr} {ws : Str} {n : Int} {t u v : Tok} {c : Nat} {L₀ : Addr} (N : News h₀ L₀ s.heap news) (hm : (a, tupO ws t n u c) ∈ news)
    (hs : subscripted slice false (.ref a) (.int 0 v) = operate [.ref a, .int 0 v] (getItem (.ref a) (.int 0 v))) (h : Q (.str ws t) s) : wpAny (model prog w) A (subscriptTail value slice (.ref a) (.int 0 v)) Q E s :=
  tail_any (tup_at N hm).typeIs slot_tuple_getitem.lookup (getItem_tuple (tup_at N hm) (by decide) (by decide) (seqIndex_of (by decide) (by show (0 : Int) < 2; decide)) (x := .str ws t) (by rfl) h) hs
theorem tup_1 {value slice : PySem.Expr} {a : Addr} {ws : Str} {n : Int} {t u v : Tok} {c : Nat} {L₀ : Addr} (N : News h₀ L₀ s.heap news) (hm : (a, tupO ws t n u c) ∈ news)
    (hs : subscripted slice false (.ref a) (.int 1 v) = operate [.ref a, .int 1 v] (getItem (.ref a) (.int 1 v))) (h : Q (.int n u) s) : wpAny (model prog w) A (subscriptTail value slice (.ref a) (.int 1 v)) Q E s :=
  tail_any (tup_at N hm).typeIs slot_tuple_getitem.lookup (getItem_tuple (tup_at N hm) (by decide) (by decide) (seqIndex_of (by decide) (by show (1 : Int) < 2; decide)) (x := .int n u) (by rfl) h) hs
end
theorem lay_ok0 {l0 : SLay} {rest : List SLay} (h : ∀ l ∈ l0 :: rest, LayOk l.1 l.2) : LayOk l0.1 l0.2 := h _ (.head _)
theorem lay_okr {l0 : SLay} {rest : List SLay} (h : ∀ l ∈ l0 :: rest, LayOk l.1 l.2) : ∀ l ∈ rest, LayOk l.1 l.2 := fun l hl => h l (.tail _ hl)
theorem lay_oki {l0 : SLay} {rest : List SLay} {i : Nat} (h : ∀ l ∈ l0 :: rest, LayOk l.1 l.2) (hi : i < rest.length) : LayOk (itemS rest i).1 (itemS rest i).2 := h (itemS rest i) (.tail _ (List.mem_of_getElem? (item_at hi)))
local macro_rules | `(tactic| walk_at "call ref") => `(tactic| (k_here; (with_reducible show wpAny _ _ (call (Value.ref 85) _) _ _ _); k_dflt ((refine' use_sent ?h1 ?h2 ?h3 ?k1 ?k2 ?k3 ?k4 ?k5 ?kK ?kd ?ku ?_); (case h1 => first | exact lay_ok0 (by assumption) | exact lay_oki (by assumption) (by assumption)); (case h2 => first | assumption | decide); (case h3 => first | assumption | decide); (case k1 => k_asm); (case k2 => k_asm); (case k3 => k_asm); (case k4 => k_asm); (case k5 => k_asm); (case kK => first | exact rfl | assumption); (case kd => ktr_room); (case ku => ktr_units); k_whole; intro t9 h9 tk9 hs9 hl9 F9 N9; (try dsimp only at hs9); (try dsimp only); (try k_fold))))
local macro_rules | `(tactic| walk_at "execs cons") => `(tactic| ((with_reducible refine wpAny_execs_cons ?_); try dsimp only))
local macro_rules | `(tactic| walk_at "execs nil") => `(tactic| ((with_reducible refine wpAny_execs_nil ?_); try dsimp only))
local macro_rules | `(tactic| walk_at "binaryOp Pow int int") => `(tactic| (k_here; k_dflt (refine' powB ?k1 ?k2 ?_; (case k1 => omega); (case k2 => omega)); intro q9 hq9 hq1 hq8; (try dsimp only)))
local macro_rules | `(tactic| walk_at "binaryOp Mult str int") => `(tactic| (k_here; k_dflt (refine' markP ?k1 ?k2 ?k3 ?_; (case k1 => assumption); (case k2 => assumption); (case k3 => (dsimp only; omega))); intro t9 k9 hk9 ht9 htk9 hl9; (try dsimp only at hk9); (try dsimp only)))
local macro_rules | `(tactic| walk_at "call builtin:str.replace") => `(tactic| (k_here; k_dflt (refine' replaceQ 8 ?kz ?ku ?kv ?kw ?kn ?kb ?_; (case kz => assumption); (case ku => first | omega | (dsimp only; omega)); (case kv => first | omega | (dsimp only; omega)); (case kw => first | omega | (dsimp only; omega)); (case kn => exact nb_of (by k_asm) (by k_asm)); (case kb => omega)); intro t9 k9 hk9 hl9; (try dsimp only at hk9); (try dsimp only)))
local macro_rules | `(tactic| walk_at "call builtin:len") => `(tactic| (k_here; (with_reducible show wpAny _ _ (call (Value.builtin "len") [Value.ref _]) _ _ _); k_dflt ((refine' lay_len ?k1 ?k2 ?k3 ?_); (case k1 => exact News.isList (by k_asm) (by assumption)); (case k2 => assumption); (case k3 => assumption)); intro t9 k9 hk9; (try dsimp only at hk9); (try dsimp only)))
local macro_rules | `(tactic| walk_at "subscriptTail") => `(tactic| (k_here; (with_reducible show wpAny _ _ (subscriptTail _ _ (Value.ref _) (Value.int 0 _)) _ _ _); k_dflt (refine' lay_first ?k1 ?k2 ?k3 ?_); (case k2 => with_reducible assumption); (case k1 => exact News.isList (news_last (by k_asm)) (by with_reducible assumption)); (case k3 => with_unfolding_all rfl); intro a9 t8 u8 c8 hm9))
local macro_rules | `(tactic| walk_at "subscriptTail") => `(tactic| (k_here; (with_reducible show wpAny _ _ (subscriptTail _ _ (Value.ref _) (Value.int (1 + Nat.cast _) _)) _ _ _); k_dflt (refine' lay_level ?k1 ?k2 ?k3 ?k4 ?k5 ?_); (case k2 => with_reducible assumption); (case k1 => exact News.isList (news_last (by k_asm)) (by with_reducible first | assumption | exact List.mem_cons_of_mem _ (by assumption))); (case k3 => with_reducible assumption); (case k4 => with_reducible assumption); (case k5 => with_unfolding_all rfl); intro a9 t8 u8 c8 hm9))
local macro_rules | `(tactic| walk_at "subscriptTail") => `(tactic| (k_here; (with_reducible show wpAny _ _ (subscriptTail _ _ (Value.ref _) (Value.int 1 _)) _ _ _); k_dflt (refine' tup_1 ?k1 ?k2 ?k3 ?_); (case k2 => with_reducible assumption); (case k1 => first | exact news_last (by k_asm) | exact news_cdr (by k_asm)); (case k3 => with_unfolding_all rfl)))
local macro_rules | `(tactic| walk_at "subscriptTail") => `(tactic| (k_here; (with_reducible show wpAny _ _ (subscriptTail _ _ (Value.ref _) (Value.int 0 _)) _ _ _); k_dflt (refine' tup_0 ?k1 ?k2 ?k3 ?_); (case k2 => with_reducible assumption); (case k1 => first | exact news_last (by k_asm) | exact news_cdr (by k_asm)); (case k3 => with_unfolding_all rfl)))
theorem h257_len : (Str.ofString "257 ").length ≤ 4 := by decide +kernel
structure Hold (P : Prop) : Prop where
  out : P
local macro_rules | `(tactic| walk_at "exec For Name Call cons nil") => `(tactic| (k_here; k_dflt (refine wpAny_For ?_ (by intro _; rfl))))
local macro_rules | `(tactic| walk_at "call type:range") => `(tactic| (k_here; (with_reducible show wpAny _ _ (call (Value.type _) _) (fun xv s₁ => wpAny _ _ (pyIter xv) _ _ s₁) _ _); refine pos_step (by dsimp only; omega) ?_))
local macro_rules | `(tactic| walk_at "pyIter ref") => `(tactic| (k_here; refine Hold.out ?_))
local macro_rules | `(tactic| walk_at "FtEnd") => `(tactic| (refine Hold.out ?_))
local macro_rules | `(tactic| walk_at "binaryOp Add str str") => `(tactic| (k_here; k_dflt (refine' addP 100000 ?k1 ?k2 ?_; (case k1 => first | assumption | omega | exact Nat.le_trans h257_len (by decide)); (case k2 => omega)); intro t9 k9 hk9 he9 hl9; (try dsimp only at hk9); (try dsimp only)))
theorem whole_c (w : World) (mean : ExcName → Option Value) (mg mb : Str → Option Value) (l : Addr) (vs : List Value) (c : Nat) (l0 : SLay) (rest : List SLay) (f : Int) (u : Tok)
    (news : List (Addr × Obj)) (hl : (l, listOf vs.toArray c) ∈ news) (ht : TupsAt news vs (l0 :: rest)) (h3 : rest.length ≤ 3) (hok : ∀ l ∈ l0 :: rest, LayOk l.1 l.2) (hf0 : 0 ≤ f) (hf1 : f ≤ 20)
    (dp un : Nat) (gd : Option (List Code)) (cn : Str) (cs : Scope) (a : Addr) (ccd : Value) (cl : List (Str × Addr)) (outer : List Env) (A₀ : Around) (base h₀ : Heap) (L : Addr) (m : Str → Option Value) (s : Shared) (Q E : Value → Shared → Prop) :
    Below A₀ base outer h₀ → Fr h₀ L s.heap m → (Mine.hd.heap_39 w.params).In h₀ → News h₀ L s.heap news → Top Mine.hd.view_39 (looseW Mine.hd.view_39 [Str.ofString "_twin_re_1", Str.ofString "_twin_re_2"]) mean mg mb h₀ → cs.kind = .function →
    dp + 16 < recursionLimit → un + 128 < cLine → (∀ (t : Tok) (h' : Heap) (tk' : Nat), Fr h₀ L h' m → News h₀ L h' news → Q (.str (wholeS l0 rest f) t) { s with heap := h', toks := tk' }) →
      wpAny (model PySem.Challenge.rw_pg0022_01.row.prog w) (ktrTop dp un gd cn cs L a ccd cl outer) (call (.ref 92) [.ref l, .int f u]) Q E s := by
  w_top off
  k_with_none
  k_fill
  intros; rename_i hret
  refine wpAny_call ?_
  k_dflt cell_enter
  k_steps
  refine Hold.mk ?_
  (rename Fr _ _ _ _ => lF'); (rename News _ _ _ _ => lN'); (rename IsRange _ _ _ _ _ _ _ _ => rgX')
  have hnil : ∀ (q : Int), q = 2 ^ ((rest.length : Int) + 1 - 1).toNat → Txt.replace (sentS l0.1 f l0.2) (Str.ofString "\"") (markS q) = partS l0 rest f 0 := fun q hq => part_zero l0 rest f hq
  refine ft_whole l0 rest f (by rfl) rgX' (by omega) h3 lF' lN' (by dsimp only; omega) (by rfl) (by rfl) ⟨_, by rw [← hnil _ (by assumption)]; rfl⟩ ?turn ?done
  case done =>
    intro u' tt h tk htk F' N'
    clear lF' lN'
    dsimp only [kstB] at F'
    try k_fold
    k_steps
    exact hret _ _ _ (by assumption) (by assumption)
  case turn =>
    intro i u' tt t I oI h tk hi htk hlt F' N'
    clear lF' lN'
    have hpl := part_len (lay_ok0 hok) (lay_okr hok) h3 (Nat.le_of_lt hi) hf0 hf1
    dsimp only [kstB] at F'
    try k_fold
    k_steps
    refine Hold.mk ?_
    refine FtEnd.intro (by assumption) (by assumption) ⟨⟨_, by rw [← part_step l0 rest f (item_at hi) (by assumption)]; rfl⟩, ?_⟩
    intro z h1 h2 h3
    have h4 : z ≠ Str.ofString "mark" := by intro e; subst e; revert h3; decide +kernel
    have h5 : z ≠ Str.ofString "tail" := by intro e; subst e; revert h3; decide +kernel
    simp only [h1, h2, h3, h4, h5, if_false, Bool.false_eq_true]
end Mine
end
section
open PySem PySem.W PyProof.Rows
set_option maxRecDepth 100000
set_option maxHeartbeats 8000000
namespace Mine
open Rx L1 Tk
theorem take10 (l : List Int) : (l.take 10).length ≤ 10 := by rw [List.length_take]; omega
def signs : Str := Str.ofString ".\n\"\x0d\x0b."
def signS (k : Int) : Str := Txt.item signs ((k.fdiv 4).fmod 6)
/-- a first text: of the five signs -/
def SgOk (x : Str) : Prop := ∀ c ∈ x.cps.toList, c = 46 ∨ c = 10 ∨ c = 34 ∨ c = 13 ∨ c = 11
theorem sign_cases {i : Int} (h0 : 0 ≤ i) (h6 : i < 6) : SgOk (Txt.item signs i) ∧ (Txt.item signs i).length = 1 := by
  have : i = 0 ∨ i = 1 ∨ i = 2 ∨ i = 3 ∨ i = 4 ∨ i = 5 := by omega
  rcases this with rfl | rfl | rfl | rfl | rfl | rfl <;> (refine ⟨?_, by decide +kernel⟩; unfold SgOk; decide +kernel)
theorem sign_ok (k : Int) : SgOk (signS k) ∧ (signS k).length = 1 := sign_cases (fmod_lo _ (by decide)) (fmod_hi _ (by decide))
theorem text_ok (cs : List Int) : SgOk (glue (cs.map signS)) ∧ (glue (cs.map signS)).length = cs.length := by
  have key : ∀ cs : List Int, (∀ c ∈ (cs.map signS).flatMap (·.cps.toList), c = 46 ∨ c = 10 ∨ c = 34 ∨ c = 13 ∨ c = 11) ∧ ((cs.map signS).flatMap (·.cps.toList)).length = cs.length := by
    intro cs
    induction cs with
    | nil => exact ⟨(by intro c h; cases h), rfl⟩
    | cons k cs ih =>
      obtain ⟨h1, h2⟩ := sign_ok k
      have h3 : (signS k).cps.toList.length = 1 := by rw [← h2]; simp [Str.length]
      refine ⟨fun c hc => ?_, ?_⟩
      · rw [List.map_cons, List.flatMap_cons] at hc
        rcases List.mem_append.mp hc with hc | hc
        · exact h1 c hc
        · exact ih.1 c hc
      · rw [List.map_cons, List.flatMap_cons, List.length_append, ih.2, h3, List.length_cons]; omega
  refine ⟨fun c hc => (key cs).1 c ?_, ?_⟩
  · exact hc
  · have := (key cs).2
    show ((cs.map signS).flatMap (·.cps.toList)).toArray.size = _
    rw [List.size_toArray]
    exact this
section
variable {prog : Program} {w : World} {A : Around} {h₀ : Heap} {L : Addr} {m : PySem.Str → Option Value} {env : Env} {elt : PySem.Expr} {x : PySem.Str} {scope : Scope} {cl : List (PySem.Str × Addr)} {s : Shared} {S : List (Addr × Obj) → Prop} {Fin : List Value → List (Addr × Obj) → Prop} {news : List (Addr × Obj)}
theorem kct_signs {vs : List Value} {ns : List Int} (hi : IntsAre vs ns)
    (turn : ∀ k t I oI C oC D m₂ ys h tk (E' : Value → Shared → Prop), k ∈ ns → LCg.NsObj oC m₂ → m₂ x = some (.int k t) → Fr h₀ L h m → News h₀ L h ((I, oI) :: (C, oC) :: (D, LCg.lst ys) :: news) → LCg.Off3 I C D news → ((@Ne Nat I C) ∧ (@Ne Nat I D) ∧ (@Ne Nat C D)) → KPfMark →
      wpAny (model prog w) A (eval elt (compEnvC scope cl C env)) (LCg.CompEnd h₀ L m { s with heap := h, toks := tk } I oI C oC D (LCg.lst ys) S (fun y news' => KCtEl news (signS k) y news')) E' { s with heap := h, toks := tk })
    (fin : KPfDone (∀ ys, CarriedAll ys (ns.map fun k => PyData.str (signS k)) → ns.length = vs.toArray.size → Fin ys news)) : LCg.CompRest prog w A h₀ L m env elt x scope cl s S (fun i v => vs.toArray[i]? = some v) Fin vs.toArray.size 0 [] news :=
  kct_list (fun k => signS k) hi turn fin
end
theorem signs_len (cs : List Int) : ∀ k ∈ cs, (signS k).length ≤ 1 := fun k _ => Nat.le_of_eq (sign_ok k).2
end Mine
end
section
open PySem PySem.W PyProof.Rows
set_option linter.unusedSimpArgs false
set_option linter.unusedVariables false
namespace Mine
open Rx Pa St L1
theorem whole_L (l0 : SLay) (rest : List SLay) (f : Int) : (wholeS l0 rest f).cps.toList = whl (toL l0) f.toNat (rest.reverse.map toL) 1 := by
  show partL l0 rest f rest.length (2 ^ (rest.length - rest.length)) = _
  unfold partL
  rw [List.take_length, Nat.sub_self, Nat.pow_zero]
def TlOk (w : Str) : Prop := w.length ≤ 10 ∧ ∀ r, w.cps.toList ≠ 34 :: r
structure LInv (text : Str) (l0 : SLay) (rest : List SLay) (front : Int) (p : Nat) : Prop where
  eq : text = wholeS l0 rest front
  len : rest.length ≤ 3
  sg : SgOk l0.1
  w0 : l0.1.length ≤ 10
  tl : ∀ l ∈ rest, TlOk l.1
  tm : ∀ l ∈ l0 :: rest, 0 ≤ l.2 ∧ l.2 ≤ (p : Int)
  fr : 0 ≤ front ∧ front ≤ l0.2
theorem linv_ok {text : Str} {l0 : SLay} {rest : List SLay} {front : Int} {p : Nat} (h : LInv text l0 rest front p) (hp : p ≤ 20) : (∀ l ∈ l0 :: rest, LayOk l.1 l.2) ∧ 0 ≤ front ∧ front ≤ 20 := by
  refine ⟨fun l hl => ?_, h.fr.1, ?_⟩
  · have ht := h.tm l hl
    refine ⟨?_, ht.1, by omega⟩
    rcases List.mem_cons.mp hl with rfl | hl
    · have := h.w0; omega
    · have := (h.tl l hl).1; omega
  · have h1 := h.tm l0 (.head _)
    have h2 := h.fr
    omega
theorem linv_len {text : Str} {l0 : SLay} {rest : List SLay} {front : Int} {p : Nat} (h : LInv text l0 rest front p) (hp : p ≤ 20) : text.length ≤ 15000 := by
  obtain ⟨hok, hf0, hf1⟩ := linv_ok h hp
  rw [h.eq]
  exact part_len (lay_ok0 hok) (lay_okr hok) h.len (Nat.le_refl _) hf0 hf1
theorem linv_mono {text : Str} {l0 : SLay} {rest : List SLay} {front : Int} {p : Nat} (h : LInv text l0 rest front p) : LInv text l0 rest front (p + 1) :=
  { h with tm := fun l hl => ⟨(h.tm l hl).1, by have := (h.tm l hl).2; omega⟩ }
theorem linv_start {text : Str} (hs : SgOk text) (hl : text.length ≤ 10) : LInv text (text, 0) [] 0 0 where
  eq := by
    apply St.str_eq
    rw [whole_L]
    show _ = put 1 (sentL text.cps.toList 0 0)
    rw [put_one]; rfl
  len := by simp
  sg := hs
  w0 := hl
  tl := fun l h => by cases h
  tm := fun l h => by rw [List.mem_singleton.mp h]; simp
  fr := ⟨Int.le_refl _, Int.le_refl _⟩
theorem two_is : Str.ofString "\"\"" = ⟨#[34, 34]⟩ := by decide +kernel
theorem linv_wrap {text tail : Str} {l0 : SLay} {rest : List SLay} {front : Int} {p : Nat} (h : LInv text l0 rest front p) (h3 : rest.length < 3) (ht : TlOk tail) :
    LInv (Str.ofString "257 \"" ++ Txt.replace text (Str.ofString "\"") (Str.ofString "\"\"") ++ Str.ofString "\"" ++ tail) l0 (rest ++ [(tail, 0)]) front (p + 1) where
  eq := by
    apply St.str_eq
    rw [whole_L, app_toList, app_toList, app_toList, L2.head_is, quote_is, two_is, replace_put, h.eq, whole_L, List.reverse_append, List.map_append]
    exact whl_wrap (toL l0) front.toNat (rest.reverse.map toL) tail.cps.toList
  len := by rw [List.length_append]; simp; omega
  sg := h.sg
  w0 := h.w0
  tl := fun l hl => by
    rcases List.mem_append.mp hl with hl | hl
    · exact h.tl l hl
    · rw [List.mem_singleton.mp hl]; exact ht
  tm := fun l hl => by
    rcases List.mem_cons.mp hl with rfl | hl
    · have := h.tm l (.head _); omega
    · rcases List.mem_append.mp hl with hl | hl
      · have := h.tm l (.tail _ hl); omega
      · rw [List.mem_singleton.mp hl]; simp; omega
  fr := h.fr
def upS (l : SLay) : SLay := (l.1, l.2 + 1)
theorem toL_up {l : SLay} (h : 0 ≤ l.2) : toL (upS l) = up (toL l) := by
  unfold toL upS up
  show (l.1.cps.toList, (l.2 + 1).toNat) = (l.1.cps.toList, l.2.toNat + 1)
  rw [show (l.2 + 1).toNat = l.2.toNat + 1 by omega]
theorem linv_sent {text : Str} {l0 : SLay} {rest : List SLay} {front : Int} {p : Nat} (h : LInv text l0 rest front p) :
    LInv (quoteS text) (upS l0) (rest.map upS) (front + (if rest.length = 0 then 1 else 0)) (p + 1) where
  eq := by
    apply St.str_eq
    rw [whole_L]
    have h00 := (h.tm l0 (.head _)).1
    have hfr := h.fr
    have q := quote_whl (toL l0) front.toNat (fun e => by
      have : l0.2.toNat = 0 := e
      omega) (rest.reverse.map toL) 1 true (Nat.le_refl _)
    show dotL true (crlfL text.cps.toList) = _
    rw [h.eq, whole_L, q, toL_up h00]
    have e1 : (rest.reverse.map toL).map up = ((rest.map upS).reverse).map toL := by
      rw [← List.map_reverse, List.map_map, List.map_map]
      apply List.map_congr_left
      intro l hl
      have hl' : l ∈ rest := List.mem_reverse.mp hl
      exact (toL_up (h.tm l (.tail _ hl')).1).symm
    rw [e1]
    congr 1
    cases rest with
    | nil => simp [b1]; omega
    | cons a r => simp
  len := by rw [List.length_map]; exact h.len
  sg := h.sg
  w0 := h.w0
  tl := fun l hl => by
    obtain ⟨q, hq, rfl⟩ := List.mem_map.mp hl
    exact h.tl q hq
  tm := fun l hl => by
    rcases List.mem_cons.mp hl with rfl | hl
    · have := h.tm l0 (.head _); show 0 ≤ l0.2 + 1 ∧ l0.2 + 1 ≤ _; omega
    · obtain ⟨q, hq, rfl⟩ := List.mem_map.mp hl
      have := h.tm q (.tail _ hq); show 0 ≤ q.2 + 1 ∧ q.2 + 1 ≤ _; omega
  fr := by
    have := h.fr
    show 0 ≤ _ ∧ _ ≤ l0.2 + 1
    split <;> omega
theorem rest_last {rest : List SLay} (h : rest.length ≠ 0) : ∃ r l, rest = r ++ [l] := by
  have hne : rest ≠ [] := by intro e; rw [e] at h; exact h rfl
  exact ⟨rest.dropLast, rest.getLast hne, (List.dropLast_concat_getLast hne).symm⟩
theorem linv_head {text : Str} {l0 : SLay} {r : List SLay} {l : SLay} {front : Int} {p : Nat} (h : LInv text l0 (r ++ [l]) front p) : ∃ y, text.cps.toList = 50 :: 53 :: 55 :: 32 :: 34 :: y := by
  rw [h.eq, whole_L, List.reverse_append, List.map_append]
  exact ⟨_, rfl⟩
theorem linv_257 {text : Str} {l0 : SLay} {rest : List SLay} {front : Int} {p : Nat} (h : LInv text l0 rest front p) (h0 : rest.length ≠ 0) : (Txt.slice text none (some 3) != Str.ofString "257") = false := by
  obtain ⟨r, l, rfl⟩ := rest_last h0
  obtain ⟨y, e⟩ := linv_head h
  have es : text = Str.ofString "257 \"" ++ ⟨y.toArray⟩ := by
    apply St.str_eq
    rw [e, app_toList, L2.head_is]; rfl
  rw [es]
  exact L2.head_257 _
theorem slice_mem (x : Str) (a b : Option Int) : ∀ c ∈ (Txt.slice x a b).cps.toList, c ∈ x.cps.toList := by
  intro c hc
  have hs : Txt.slice x a b = StrLaws.sliceText x a b := rfl
  rw [hs] at hc
  unfold StrLaws.sliceText at hc
  split at hc
  · exact hc
  · simp only [List.mem_filterMap] at hc
    obtain ⟨i, _, hi⟩ := hc
    have := Array.mem_of_getElem? hi
    simpa using this
theorem sg_sent {w : List Nat} (h : ∀ c ∈ w, c = 46 ∨ c = 10 ∨ c = 34 ∨ c = 13 ∨ c = 11) (f t : Nat) : ∀ c ∈ sentL w f t, c = 46 ∨ c = 10 ∨ c = 34 ∨ c = 13 ∨ c = 11 := by
  have hn : ∀ l : List Nat, (∀ c ∈ l, c = 46 ∨ c = 10 ∨ c = 34 ∨ c = 13 ∨ c = 11) → ∀ c ∈ normL l, c = 46 ∨ c = 10 ∨ c = 34 ∨ c = 13 ∨ c = 11 := by
    intro l
    fun_induction normL l with
    | case1 => intro _ c hc; cases hc
    | case2 r ih =>
      intro h c hc
      rcases List.mem_cons.mp hc with rfl | hc
      · simp
      · exact ih (fun x hx => h x (by simp [hx])) c hc
    | case3 c0 r h1 h2 ih =>
      intro h c hc
      rcases List.mem_cons.mp hc with rfl | hc
      · simp
      · exact ih (fun x hx => h x (by simp [hx])) c hc
    | case4 c0 r h1 h2 ih =>
      intro h c hc
      rcases List.mem_cons.mp hc with rfl | hc
      · exact h _ (by simp)
      · exact ih (fun x hx => h x (by simp [hx])) c hc
  have hs : ∀ (l : List Nat) (st : Option Nat), (∀ c ∈ l, c = 46 ∨ c = 10 ∨ c = 34 ∨ c = 13 ∨ c = 11) → ∀ c ∈ sndL t st l, c = 46 ∨ c = 10 ∨ c = 34 ∨ c = 13 ∨ c = 11 := by
    intro l
    induction l with
    | nil => intro st _ c hc; cases st <;> cases hc
    | cons d l ih =>
      intro st h c hc
      have hl : ∀ c ∈ l, c = 46 ∨ c = 10 ∨ c = 34 ∨ c = 13 ∨ c = 11 := fun x hx => h x (.tail _ hx)
      by_cases h10 : d = 10
      · subst h10
        rw [snd_nl] at hc
        rcases List.mem_cons.mp hc with rfl | hc
        · simp
        · rcases List.mem_cons.mp hc with rfl | hc
          · simp
          · exact ih _ hl c hc
      · cases st with
        | none =>
          rw [snd_in _ _ h10] at hc
          rcases List.mem_cons.mp hc with rfl | hc
          · exact h _ (.head _)
          · exact ih _ hl c hc
        | some q =>
          by_cases h46 : d = 46
          · subst h46
            rw [snd_dot] at hc
            rcases List.mem_append.mp hc with hc | hc
            · rw [(List.mem_replicate.mp hc).2]; simp
            · rcases List.mem_cons.mp hc with rfl | hc
              · simp
              · exact ih _ hl c hc
          · rw [snd_st _ _ _ h10 h46] at hc
            rcases List.mem_cons.mp hc with rfl | hc
            · exact h _ (.head _)
            · exact ih _ hl c hc
  unfold sentL
  split
  · exact h
  · exact hs _ _ (hn w h)
theorem linv_no257 {text : Str} {l0 : SLay} {rest : List SLay} {front : Int} {p : Nat} (h : LInv text l0 rest front p) (h0 : rest.length = 0) : (Txt.slice text none (some 3) != Str.ofString "257") = true := by
  have hr : rest = [] := List.eq_nil_of_length_eq_zero h0
  subst hr
  have ht : text.cps.toList = sentL l0.1.cps.toList front.toNat l0.2.toNat := by
    rw [h.eq, whole_L]
    show put 1 _ = _
    rw [put_one]; rfl
  rw [bne_iff_ne]
  intro e
  have h50 : (50 : Nat) ∈ (Txt.slice text none (some 3)).cps.toList := by
    rw [e, show Str.ofString "257" = ⟨#[50, 53, 55]⟩ by decide +kernel]; simp
  have := slice_mem text none (some 3) 50 h50
  rw [ht] at this
  have := sg_sent h.sg _ _ 50 this
  omega
theorem linv_read {text : Str} {l0 : SLay} {rest : List SLay} {front : Int} {p : Nat} (h : LInv text l0 rest front p) (h0 : rest.length ≠ 0) : LInv (parseS text) l0 rest.dropLast front (p + 1) := by
  obtain ⟨r, l, rfl⟩ := rest_last h0
  obtain ⟨y, e⟩ := linv_head h
  rw [List.dropLast_concat]
  have es : text = Str.ofString "257 \"" ++ ⟨y.toArray⟩ := by
    apply St.str_eq
    rw [e, app_toList, L2.head_is]; rfl
  exact {
    eq := by
      apply St.str_eq
      have hp : (parseS text).cps.toList = unqL (text.cps.toList.drop 5) := by
        have ok : okS text = false := by rw [es]; exact L2.head_ok _
        unfold parseS
        rw [ok]; rfl
      rw [hp, h.eq, whole_L, whole_L, List.reverse_append, List.map_append]
      exact read_whl (toL l0) front.toNat (toL l) (r.reverse.map toL) (h.tl l (by simp)).2
    len := by have := h.len; rw [List.length_append] at this; omega
    sg := h.sg
    w0 := h.w0
    tl := fun q hq => h.tl q (List.mem_append_left _ hq)
    tm := fun q hq => by
      have : q ∈ l0 :: (r ++ [l]) := by
        rcases List.mem_cons.mp hq with rfl | hq
        · exact .head _
        · exact .tail _ (List.mem_append_left _ hq)
      have := h.tm q this
      omega
    fr := h.fr }
end Mine
end
section
open PySem PySem.W PyProof.Rows PySem.Calls PySem.Spec
set_option linter.unusedSimpArgs false
set_option linter.unusedVariables false
set_option maxRecDepth 100000
set_option maxHeartbeats 4000000
namespace Mine
namespace Fl
section
variable {prog : Program} {w : World} {A : Around} {E : Value → Shared → Prop} {s : Shared} {h₀ : Heap} {env : Env}
/-- a turn's end: another ledger, the iterator as it was -/
def FlEnd (h₀ : Heap) (L : Addr) (s : Shared) (I : Addr) (oI : Obj) (q : Addr × Obj) (J : (Str → Option Value) → List (Addr × Obj) → Prop) (Q : Flow → Shared → Prop) (f : Flow) (s' : Shared) : Prop :=
  match f with
  | .next | .cont => ∃ h' tk' m' nx, s' = { s with heap := h', toks := tk' } ∧ Fr h₀ L h' m' ∧ News h₀ L h' ((I, oI) :: nx) ∧ q ∈ nx ∧ (∀ p ∈ nx, p.1 ≠ I) ∧ J m' nx
  | .ret v => Q (.ret v) s'
  | .brk => False
theorem fl_list {x : Str} {px : Pos} {body : List Stmt} {l : Addr} {vs : List Value} {ns : List Int} {nn : Nat} {m₀ : Str → Option Value} {news : List (Addr × Obj)} {Q : Flow → Shared → Prop} (J : Nat → (Str → Option Value) → List (Addr × Obj) → Prop)
    (hh : A.handled = none) (hl : (l, listOf vs.toArray nn) ∈ news) (hi : IntsAre vs ns) (F : Fr h₀ env.locals s.heap m₀) (N : News h₀ env.locals s.heap news)
    (hx : env.kindOf x = some .local) (hp : (env.scope.kind == .class || (env.scope.kind == .module && env.locals != env.globals)) = false) (h0 : J 0 m₀ news)
    (turn : ∀ i n m nx t I oI h tk, ns[i]? = some n → oI.cls = .type "list_iterator" → J i m nx → (l, listOf vs.toArray nn) ∈ nx → (∀ p ∈ nx, p.1 ≠ I) → Fr h₀ env.locals h (fun y => if y = x then some (.int n t) else m y) → News h₀ env.locals h ((I, oI) :: nx) →
      wpAny (model prog w) A (execs body env) (FlEnd h₀ env.locals { s with heap := h, toks := tk } I oI (l, listOf vs.toArray nn) (J (i + 1)) Q) E { s with heap := h, toks := tk })
    (done : ∀ m nx h tk, J ns.length m nx → Fr h₀ env.locals h m → News h₀ env.locals h nx → Q .next { s with heap := h, toks := tk })
    (hE : PassesOwn (model prog w) A env E := by passes_own) :
    wpAny (model prog w) A (pyIter (.ref l)) (fun it s₂ => codeAny (model prog w) A (.forLoop (.Name x px) it body [] env) (fun r s' => match r with | .ok f => Q f s' | .error e => cameBackBy (model prog w) A env E e s') s₂) E s := by
  have hol : s.heap.get? l = some (listOf vs.toArray nn) := (N _ hl).1
  have hls : s.heap.IsList l vs.toArray := ⟨_, hol, rfl, nn, rfl⟩
  have hne : l ≠ s.heap.objs.size := Nat.ne_of_lt (Heap.lt_size hol)
  refine wpAny_pyIter_list hls ?_
  have hI₀ : h₀.get? s.heap.objs.size = none := by
    cases e : h₀.get? s.heap.objs.size with
    | none => rfl
    | some o => exact absurd (Heap.lt_size (F.keep _ _ e)) (Nat.lt_irrefl _)
  have hLI : env.locals ≠ s.heap.objs.size := Nat.ne_of_lt F.ns.lt
  have off : ∀ p ∈ news, p.1 ≠ s.heap.objs.size := fun p hp => Nat.ne_of_lt (Heap.lt_size (N p hp).1)
  have W := Walks.list (prog := prog) (w := w) (A := A) hh s.heap.objs.size l hne vs.toArray
  have hlen : vs.toArray.size = ns.length := by simp [hi.length]
  rw [hlen] at W
  generalize hI : s.heap.objs.size = I at *
  refine codeAny_forLoop
    (fun k s' => ∃ h' tk m' nx i, s' = { s with heap := h', toks := tk } ∧ (h'.IsListIter I l i ∧ h'.IsList l vs.toArray) ∧ Fr h₀ env.locals h' m' ∧ News h₀ env.locals h' nx ∧ (l, listOf vs.toArray nn) ∈ nx ∧ (∀ p ∈ nx, p.1 ≠ I) ∧ J i m' nx ∧ i ≤ ns.length ∧ k = ns.length + 1 - i) ?_ (ns.length + 1)
    ⟨_, _, m₀, news, 0, rfl, ⟨⟨_, by simpa [hI] using Heap.get?_push_size s.heap rfl, rfl, rfl⟩, hls.at fun o e => Heap.get?_push_of_some _ e⟩, F.push _, fun p hp => ⟨Heap.get?_push_of_some _ (N p hp).1, (N p hp).2⟩, hl, off, h0, Nat.zero_le _, rfl⟩
  rintro k s' ⟨h', tk, m', nx, i, rfl, hst', F', N', hl', off', hJ, hin, rfl⟩
  have keepF : ∀ h₁ : Heap, (∀ b o, b ∉ [I] → h'.get? b = some o → h₁.get? b = some o) → Fr h₀ env.locals h₁ m' ∧ News h₀ env.locals h₁ nx := fun h₁ hk₁ =>
    ⟨⟨F'.ns.at' fun o e => hk₁ _ o (by simpa using hLI) e, fun b o e => hk₁ b o (fun hm => by rw [List.mem_singleton.mp hm, hI₀] at e; cases e) (F'.keep b o e), F'.above⟩,
      fun p hp => ⟨hk₁ _ _ (by simpa using off' p hp) (N' p hp).1, (N' p hp).2⟩⟩
  by_cases hlt : i < ns.length
  · refine W.item i _ _ _ hlt hst' fun v h₁ tk₁ hP hst₁ hk₁ => ?_
    obtain ⟨F₁, N₁⟩ := keepF h₁ hk₁
    have hP' : vs[i]? = some v := by simpa using hP
    obtain ⟨n₁, t, rfl, hn1⟩ := hi.at i v hP'
    refine wpAny_assign_Name (wpAny_storeName_local hx F₁.ns (fun h₂ hn₂ hs₂ => ?_) hp)
    have F₂ := F₁.set hn₂ hs₂
    have N₂' := N₁.set hs₂
    have hst₂ : h₂.IsListIter I l (i + 1) ∧ h₂.IsList l vs.toArray := ⟨hst₁.1.at fun o e => (hs₂.2 _ (Ne.symm hLI)).trans e, ⟨_, (N₂' _ hl').1, rfl, nn, rfl⟩⟩
    obtain ⟨oI, heI, hoI⟩ := hst₂.1
    have N₂ : News h₀ env.locals h₂ ((I, oI) :: nx) := fun p hp => by
      rcases List.mem_cons.mp hp with rfl | hp
      · exact ⟨heI, Ne.symm hLI, hI₀⟩
      · exact N₂' p hp
    refine wpAny_mono (wpAny_passesOwn hE (turn i n₁ m' nx t I oI h₂ _ hn1 hoI.1 hJ hl' off' F₂ N₂)) (fun f s₃ h₃ => ?_) fun _ _ e => e
    have fin : (∃ h' tk' m'' nx', s₃ = { s with heap := h', toks := tk' } ∧ Fr h₀ env.locals h' m'' ∧ News h₀ env.locals h' ((I, oI) :: nx') ∧ (l, listOf vs.toArray nn) ∈ nx' ∧ (∀ p ∈ nx', p.1 ≠ I) ∧ J (i + 1) m'' nx') →
        ∃ m, m < ns.length + 1 - i ∧ ∃ h' tk m' nx i, s₃ = { s with heap := h', toks := tk } ∧ (h'.IsListIter I l i ∧ h'.IsList l vs.toArray) ∧ Fr h₀ env.locals h' m' ∧ News h₀ env.locals h' nx ∧ (l, listOf vs.toArray nn) ∈ nx ∧ (∀ p ∈ nx, p.1 ≠ I) ∧ J i m' nx ∧ i ≤ ns.length ∧ m = ns.length + 1 - i := by
      rintro ⟨h₄, tk₄, m₄, nx₄, rfl, F₄, N₄, hl₄, off₄, hJ₄⟩
      exact ⟨ns.length + 1 - (i + 1), by omega, h₄, tk₄, m₄, nx₄, i + 1, rfl, ⟨⟨oI, (N₄ (I, oI) (.head _)).1, hoI⟩, ⟨_, (N₄ _ (.tail _ hl₄)).1, rfl, nn, rfl⟩⟩, F₄, fun p hp => N₄ p (.tail _ hp), hl₄, off₄, hJ₄, hlt, rfl⟩
    cases f with
    | ret v => exact h₃
    | brk => exact h₃.elim
    | cont => exact fin h₃
    | next => exact fin h₃
  · have hin' : i = ns.length := by omega
    subst hin'
    refine W.done _ _ _ hst' fun h₁ tk₁ hk₁ => wpAny_execs_nil ?_
    obtain ⟨F₁, N₁⟩ := keepF h₁ hk₁
    exact done m' nx h₁ tk₁ hJ F₁ N₁
end
end Fl
end Mine
end
section
open PySem PySem.W PyProof.Rows PySem.Calls
set_option linter.unusedVariables false
set_option maxRecDepth 100000
set_option maxHeartbeats 4000000
namespace Mine
open Rx L1 Tk Fl
/-- between two turns of law()'s loop -/
def JW (i : Nat) (m : Str → Option Value) (nx : List (Addr × Obj)) : Prop :=
  ∃ (text : Str) (front : Int) (l0 : SLay) (rest : List SLay) (lv : Addr) (vs : List Value) (c : Nat) (tt tf : Tok), m (Str.ofString "text") = some (.str text tt) ∧ m (Str.ofString "front") = some (.int front tf) ∧ m (Str.ofString "layers") = some (.ref lv) ∧
    (lv, listOf vs.toArray c) ∈ nx ∧ TupsAt nx vs (l0 :: rest) ∧ LInv text l0 rest front i
theorem fl_law {prog : Program} {w : World} {A : Around} {E : Value → Shared → Prop} {s : Shared} {h₀ : Heap} {env : Env} {px : Pos} {body : List Stmt} {l : Addr} {us : List Value} {ns : List Int} {nn : Nat} {m₀ : Str → Option Value} {news : List (Addr × Obj)} {Q : Flow → Shared → Prop}
    (hh : A.handled = none) (hl : (l, listOf us.toArray nn) ∈ news) (hi : IntsAre us ns) (hn : ns.length ≤ 10) (F : Fr h₀ env.locals s.heap m₀) (N : News h₀ env.locals s.heap news)
    (hx : env.kindOf (Str.ofString "cell") = some .local) (hp : (env.scope.kind == .class || (env.scope.kind == .module && env.locals != env.globals)) = false) (h0 : JW 0 m₀ news)
    (turn : ∀ (i : Nat) (n : Int) (text : Str) (front : Int) (l0 : SLay) (rest : List SLay) (lv : Addr) (vs : List Value) (c : Nat) (tt tf t : Tok) (u : Str → Option Value) (nx : List (Addr × Obj)) (I : Addr) (oI : Obj) (h : Heap) (tk : Nat), i < 10 → oI.cls = .type "list_iterator" → LInv text l0 rest front i → (lv, listOf vs.toArray c) ∈ nx → TupsAt nx vs (l0 :: rest) → (l, listOf us.toArray nn) ∈ nx → (∀ p ∈ nx, p.1 ≠ I) →
      Fr h₀ env.locals h (fun y => if y = Str.ofString "cell" then some (.int n t) else kstB u [(Str.ofString "text", .str text tt), (Str.ofString "front", .int front tf), (Str.ofString "layers", .ref lv)] y) → News h₀ env.locals h ((I, oI) :: nx) →
      wpAny (model prog w) A (execs body env) (FlEnd h₀ env.locals { s with heap := h, toks := tk } I oI (l, listOf us.toArray nn) (JW (i + 1)) Q) E { s with heap := h, toks := tk })
    (done : ∀ m nx h tk, Fr h₀ env.locals h m → News h₀ env.locals h nx → Q .next { s with heap := h, toks := tk })
    (hE : PassesOwn (model prog w) A env E := by passes_own) :
    wpAny (model prog w) A (pyIter (.ref l)) (fun it s₂ => codeAny (model prog w) A (.forLoop (.Name (Str.ofString "cell") px) it body [] env) (fun r s' => match r with | .ok f => Q f s' | .error e => cameBackBy (model prog w) A env E e s') s₂) E s := by
  refine fl_list JW hh hl hi F N hx hp h0 ?_ (fun m nx h tk _ F' N' => done m nx h tk F' N') hE
  rintro i n m nx t I oI h tk hni hcI ⟨text, front, l0, rest, lv, vs, c, tt, tf, h1, h2, h3, hm, ht, hL⟩ hl' off F' N'
  have hi10 : i < 10 := Nat.lt_of_lt_of_le (List.getElem?_eq_some_iff.mp hni).1 hn
  have em : (fun y => if y = Str.ofString "cell" then some (.int n t) else m y) = fun y => if y = Str.ofString "cell" then some (.int n t) else kstB m [(Str.ofString "text", .str text tt), (Str.ofString "front", .int front tf), (Str.ofString "layers", .ref lv)] y := by
    funext y
    by_cases hy : y = Str.ofString "cell"
    · rw [if_pos hy, if_pos hy]
    · rw [if_neg hy, if_neg hy]
      refine (kstB_eq (fun p hp => ?_) (fun _ => rfl)).symm
      simp only [List.mem_cons, List.not_mem_nil, or_false] at hp
      rcases hp with rfl | rfl | rfl
      · exact h1
      · exact h2
      · exact h3
  rw [em] at F'
  exact turn i n text front l0 rest lv vs c tt tf t m nx I oI h tk hi10 hcI hL hm ht hl' off F' N'
theorem jw_start {m : Str → Option Value} {news : List (Addr × Obj)} {cs : List Int} {lv a : Addr} {c k : Nat} {tt tf t u : Tok} (h1 : m (Str.ofString "text") = some (.str (glue (cs.map signS)) tt)) (h2 : m (Str.ofString "front") = some (.int 0 tf)) (h3 : m (Str.ofString "layers") = some (.ref lv))
    (hm : (lv, listOf #[.ref a] c) ∈ news) (ha : (a, tupO (glue (cs.map signS)) t 0 u k) ∈ news) (hc : cs.length = 10) : JW 0 m news := by
  obtain ⟨hs, hl⟩ := text_ok cs
  refine ⟨_, 0, (_, 0), [], lv, [.ref a], c, tt, tf, h1, h2, h3, hm, ⟨rfl, fun i w k' he => ?_⟩, linv_start hs (by omega)⟩
  cases i with
  | zero =>
    simp only [List.getElem?_cons_zero, Option.some.injEq, Prod.mk.injEq] at he
    obtain ⟨rfl, rfl⟩ := he
    exact ⟨a, t, u, k, rfl, ha⟩
  | succ i => simp at he
end Mine
end
section
open PySem PySem.W PyProof.Rows PySem.Calls
set_option linter.unusedVariables false
namespace Mine
open Rx L1 Tk
def tails : List Str := [Str.ofString "", Str.ofString "\n.", Str.ofString " \"\x0d.", Str.ofString ".\x0d\n..", Str.ofString "\x0d\"", Str.ofString "a\n"]
def tlB (w : Str) : Bool := decide (w.length ≤ 10) && (match w.cps.toList with | 34 :: _ => false | _ => true)
theorem tlB_ok {w : Str} (h : tlB w = true) : TlOk w := by
  unfold tlB at h
  simp only [Bool.and_eq_true, decide_eq_true_eq] at h
  refine ⟨h.1, fun r e => ?_⟩
  rw [e] at h
  exact absurd h.2 (by simp)
theorem tails_ok {i : Int} (h0 : 0 ≤ i) (h6 : i < 6) : TlOk (tails.getD i.toNat Str.empty) := by
  have : i = 0 ∨ i = 1 ∨ i = 2 ∨ i = 3 ∨ i = 4 ∨ i = 5 := by omega
  rcases this with rfl | rfl | rfl | rfl | rfl | rfl <;> exact tlB_ok (by decide +kernel)
section
variable {prog : Program} {w : World} {A : Around} {E : Value → Shared → Prop} {s : Shared} {Q : Value → Shared → Prop}
theorem tail_item {value slice : PySem.Expr} {l : Addr} {vs : List Value} {S : Int} {u : Tok} (hl : s.heap.IsList l vs.toArray) (hw : StrsAre vs [Str.ofString "", Str.ofString "\n.", Str.ofString " \"\x0d.", Str.ofString ".\x0d\n..", Str.ofString "\x0d\"", Str.ofString "a\n"])
    (hs : subscripted slice false (.ref l) (.int (S.fmod 6) u) = operate [.ref l, .int (S.fmod 6) u] (getItem (.ref l) (.int (S.fmod 6) u)))
    (h : ∀ (t' : Tok) (tail : Str), TlOk tail → tail.length ≤ 10 → Q (.str tail t') s) : wpAny (model prog w) A (subscriptTail value slice (.ref l) (.int (S.fmod 6) u)) Q E s := by
  have h0 := fmod_lo S (n := 6) (by decide)
  have h6 := fmod_hi S (n := 6) (by decide)
  refine KTb.item_list hl hw h0 (by show S.fmod 6 < 6; exact h6) (by omega) (fun t' _ => ?_) hs
  have e : TlOk (tails.getD (S.fmod 6).toNat Str.empty) := tails_ok h0 h6
  exact h t' _ e e.1
end
theorem strs6 {a b c d e f : Str} {t u v x y z : Tok} : StrsAre [.str a t, .str b u, .str c v, .str d x, .str e y, .str f z] [a, b, c, d, e, f] := .cons _ _ (.cons _ _ (.cons _ _ (.cons _ _ (.cons _ _ (.cons _ _ .nil)))))
end Mine
end
section
open PySem PySem.W PyProof.Rows PySem.Calls
set_option linter.unusedVariables false
namespace Mine
open Rx L1 Tk
theorem tups_mono {news news' : List (Addr × Obj)} {vs : List Value} {lay : List SLay} (h : TupsAt news vs lay) (hs : ∀ p ∈ news, p ∈ news') : TupsAt news' vs lay :=
  ⟨h.1, fun i w k he => by obtain ⟨a, t, u, n, e, hm⟩ := h.2 i w k he; exact ⟨a, t, u, n, e, hs _ hm⟩⟩
theorem tups_snoc {news : List (Addr × Obj)} {vs : List Value} {lay : List SLay} {a : Addr} {w : Str} {k : Int} {t u : Tok} {n : Nat} (h : TupsAt news vs lay) (hm : (a, tupO w t k u n) ∈ news) : TupsAt news (vs ++ [.ref a]) (lay ++ [(w, k)]) := by
  refine ⟨by rw [List.length_append, List.length_append, h.1]; rfl, fun i w' k' he => ?_⟩
  by_cases hi : i < lay.length
  · rw [List.getElem?_append_left hi] at he
    obtain ⟨a', t', u', n', e, hm'⟩ := h.2 i w' k' he
    exact ⟨a', t', u', n', by rw [List.getElem?_append_left (by rw [h.1]; exact hi)]; exact e, hm'⟩
  · rw [List.getElem?_append_right (by omega)] at he
    have h0 : i - lay.length = 0 := by
      have := (List.getElem?_eq_some_iff.mp he).1
      simp at this; omega
    rw [h0] at he
    simp only [List.getElem?_cons_zero, Option.some.injEq, Prod.mk.injEq] at he
    obtain ⟨rfl, rfl⟩ := he
    exact ⟨a, t, u, n, by rw [List.getElem?_append_right (by rw [h.1]; omega), h.1, h0]; rfl, hm⟩
theorem tups_last {news : List (Addr × Obj)} {vs : List Value} {l0 : SLay} {rest : List SLay} (h : TupsAt news vs (l0 :: rest)) (h0 : rest.length ≠ 0) : TupsAt news vs.dropLast (l0 :: rest.dropLast) := by
  obtain ⟨r, l, rfl⟩ := rest_last h0
  rw [List.dropLast_concat]
  have hl := h.1
  rw [List.length_cons, List.length_append] at hl
  simp only [List.length_cons, List.length_nil] at hl
  refine ⟨by rw [List.length_dropLast, List.length_cons]; omega, fun i w k he => ?_⟩
  have hi : i < (l0 :: r).length := (List.getElem?_eq_some_iff.mp he).1
  rw [List.length_cons] at hi
  have he' : (l0 :: (r ++ [l]))[i]? = some (w, k) := by
    rw [← List.cons_append, List.getElem?_append_left (by rw [List.length_cons]; exact hi)]; exact he
  obtain ⟨a, t, u, n, e, hm⟩ := h.2 i w k he'
  exact ⟨a, t, u, n, by rw [List.getElem?_dropLast, if_pos (by omega)]; exact e, hm⟩
end Mine
end
section
open PySem PySem.W PyProof.Rows PySem.Calls
set_option linter.unusedVariables false
set_option linter.unusedSimpArgs false
set_option maxRecDepth 100000
set_option maxHeartbeats 4000000
namespace Mine
open Rx L1 Tk Fl
theorem ref_ne {h : Heap} {a b : Addr} {o q : Obj} (ha : h.get? a = some o) (hb : h.get? b = some q) (hc : o.cls ≠ q.cls) : a ≠ b := fun e => by
  subst e; rw [ha] at hb; cases hb; exact hc rfl
theorem list_iter_ne {o : Obj} (h : o.cls = .type "list_iterator") {q : Obj} (hq : q.cls = .type "list" ∨ q.cls = .type "tuple") : q.cls ≠ o.cls := by
  rw [h]
  rcases hq with e | e <;> (rw [e]; decide)
section
variable {prog : Program} {w : World} {A : Around} {E : Value → Shared → Prop} {s : Shared} {h₀ : Heap} {L lv l3 I : Addr} {m : Str → Option Value} {all nx : List (Addr × Obj)} {oI : Obj} {q : Addr × Obj} {vs : List Value} {lay : List SLay} {c : Nat} {Q : Value → Shared → Prop}
/-- one layer more -/
theorem add_layers {T : Addr} {k3 n : Nat} {wd : Str} {t u : Tok} {k : Int} (F : Fr h₀ L s.heap m) (N : News h₀ L s.heap all) (hI : (I, oI) ∈ all) (hcI : oI.cls = .type "list_iterator") (hnx : ∀ p ∈ nx, p ∈ all) (hm : (lv, listOf vs.toArray c) ∈ nx) (ht : TupsAt nx vs lay)
    (hl : (l3, listOf #[Value.ref T] k3) ∈ all) (hT : (T, tupO wd t k u n) ∈ all) (hq : q ∈ nx) (off : ∀ p ∈ nx, p.1 ≠ I) (hlen : lay.length ≤ 4)
    (h : ∀ D vs' h' nx', Fr h₀ L h' m → News h₀ L h' ((I, oI) :: nx') → (D, listOf vs'.toArray 0) ∈ nx' → TupsAt nx' vs' (lay ++ [(wd, k)]) → q ∈ nx' → (∀ p ∈ nx', p.1 ≠ I) → Q (.ref D) { s with heap := h' }) :
    wpAny (model prog w) A (binaryOp .Add (.ref lv) (.ref l3)) Q E s := by
  have ha : s.heap.IsList lv vs.toArray := News.isList N (hnx _ hm)
  have hb : s.heap.IsList l3 [Value.ref T].toArray := News.isList N hl
  refine add_lists F N ha hb (fun h' F' N' => ?_) (by rw [ht.1, sizeLine_eq, List.length_singleton]; omega)
  refine h _ (vs ++ [Value.ref T]) h' ((s.heap.objs.size, { cls := .type "list", data := .seq (vs ++ [Value.ref T]).toArray }) :: (T, tupO wd t k u n) :: nx) F' (fun p hp => N' p ?_) (.head _) (tups_snoc (tups_mono ht (fun p hp => .tail _ (.tail _ hp))) (.tail _ (.head _))) (.tail _ (.tail _ hq)) (fun p hp => ?_)
  · rcases List.mem_cons.mp hp with rfl | hp
    · exact .tail _ hI
    · rcases List.mem_cons.mp hp with rfl | hp
      · exact .head _
      · rcases List.mem_cons.mp hp with rfl | hp
        · exact .tail _ hT
        · exact .tail _ (hnx _ hp)
  · have gI := (N' (I, oI) (.tail _ hI)).1
    rcases List.mem_cons.mp hp with rfl | hp
    · exact ref_ne (N' _ (.head _)).1 gI (list_iter_ne hcI (.inl rfl))
    · rcases List.mem_cons.mp hp with rfl | hp
      · exact ref_ne (N' _ (.tail _ hT)).1 gI (list_iter_ne hcI (.inr rfl))
      · exact off p hp
/-- the outermost layer off -/
theorem cut_layers {value slice : PySem.Expr} {l0 : SLay} {rest : List SLay} {u : Tok} (F : Fr h₀ L s.heap m) (N : News h₀ L s.heap ((I, oI) :: nx)) (hcI : oI.cls = .type "list_iterator") (hm : (lv, listOf vs.toArray c) ∈ nx) (ht : TupsAt nx vs (l0 :: rest)) (h0 : rest.length ≠ 0)
    (hq : q ∈ nx) (off : ∀ p ∈ nx, p.1 ≠ I) (hlen : rest.length ≤ 3)
    (hs : subscripted slice false (.ref lv) (.ref s.heap.objs.size) = operate [.ref s.heap.objs.size, .ref lv] (getItem (.ref lv) (.ref s.heap.objs.size))) (hp : ∀ r, letTemporaryGo value (.ref lv) r = pure ())
    (h : ∀ D vs' h' nx', Fr h₀ L h' m → News h₀ L h' ((I, oI) :: nx') → (D, listOf vs'.toArray 0) ∈ nx' → TupsAt nx' vs' (l0 :: rest.dropLast) → q ∈ nx' → (∀ p ∈ nx', p.1 ≠ I) → Q (.ref D) { s with heap := h' }) :
    wpAny (model prog w) A (subscriptTail value slice (.ref lv) (.ref s.heap.objs.size)) Q E { s with heap := s.heap.push { cls := .type "slice", data := .fields #[.none, .int (-1) u, .none] } } := by
  have hl : vs.length = rest.length + 1 := ht.1
  refine kmk_slice_lit (zs := vs.dropLast) F N (News.isList N (.tail _ hm)) IsPart.none (IsPart.int _ _) ?_ (fun D h' F' N' l1 => ?_) hs hp (by rw [List.size_toArray, hl, sizeLine_eq]; omega)
  · rw [kms_pick_eq]
    unfold kms_pick
    have e1 : kms_lo none vs.toArray.toList.length = 0 := rfl
    have e2 : kms_hi (some (-1)) vs.toArray.toList.length = vs.length - 1 := by
      show (if (-1 : Int) < 0 then vs.toArray.toList.length - (-(-1 : Int)).toNat else min (-1 : Int).toNat vs.toArray.toList.length) = _
      rw [if_pos (by decide), List.toList_toArray]
      rfl
    rw [e1, e2, List.dropLast_eq_take]
    simp
  · refine h D vs.dropLast h' ((D, listOf vs.dropLast.toArray 0) :: nx) F' (fun p hp => N' p ?_) (.head _) (tups_mono (tups_last ht h0) (fun p hp => .tail _ hp)) (.tail _ hq) (fun p hp => ?_)
    · rcases List.mem_cons.mp hp with rfl | hp
      · exact .tail _ (.head _)
      · rcases List.mem_cons.mp hp with rfl | hp
        · exact .head _
        · exact .tail _ (.tail _ hp)
    · rcases List.mem_cons.mp hp with rfl | hp
      · exact fun e => by
          have h9 : I < D := l1 (I, oI) (.head _)
          have e9 : D = I := e
          rw [e9] at h9
          exact Nat.lt_irrefl _ h9
      · exact off p hp
/-- an element of the list that is sent: its tuple on the ledger -/
def UpEnd (h₀ : Heap) (L : Addr) (m : Str → Option Value) (s₁ : Shared) (led : List (Addr × Obj)) (wd : Str) (k : Int) (y : Value) (s₂ : Shared) : Prop :=
  ∃ h' tk a t u n, s₂ = { s₁ with heap := h', toks := tk } ∧ y = .ref a ∧ Fr h₀ L h' m ∧ News h₀ L h' ((a, tupO wd t k u n) :: led) ∧ ∀ p ∈ led, p.1 < a
theorem up_end {s₁ : Shared} {led : List (Addr × Obj)} {wd : Str} {k : Int} {t u : Tok} {h : Heap} {tk : Nat} (F : Fr h₀ L h m) (N : News h₀ L h led) :
    wpAny (model prog w) A (newTuple [.str wd t, .int k u]) (UpEnd h₀ L m s₁ led wd k) E { s₁ with heap := h, toks := tk } :=
  newTuple_N F N (fun h' F' N' => ⟨h', tk, _, t, u, _, rfl, rfl, F', N', fun p hp => Heap.lt_size (N p hp).1⟩) (by rw [sizeLine_eq]; show 2 ≤ _; omega)
theorem tups_take {news : List (Addr × Obj)} {ys : List Value} {lay : List SLay} {i : Nat} {wd : Str} {k : Int} {a : Addr} {t u : Tok} {n : Nat} (h : TupsAt news ys ((lay.take i).map upS)) (he : lay[i]? = some (wd, k)) (hm : (a, tupO wd t (k + 1) u n) ∈ news) : TupsAt news (ys ++ [.ref a]) ((lay.take (i + 1)).map upS) := by
  rw [List.take_add_one, he, List.map_append]
  exact tups_snoc h hm
theorem up_rest {elt : PySem.Expr} {x x₂ : Str} {env : Env} {scope : Scope} {cl : List (Str × Addr)} {Fin : List Value → List (Addr × Obj) → Prop} (hm : (lv, listOf vs.toArray c) ∈ nx) (ht : TupsAt nx vs lay)
    (turn : ∀ wd k t u I' oI' C oC D m₂ ys nw h tk (E' : Value → Shared → Prop), (wd, k) ∈ lay → LCg.NsObj oC m₂ → m₂ x = some (.str wd t) → m₂ x₂ = some (.int k u) → Fr h₀ L h m → News h₀ L h ((I', oI') :: (C, oC) :: (D, LCg.lst ys) :: nw) →
      wpAny (model prog w) A (eval elt (compEnvC scope cl C env)) (UpEnd h₀ L m { s with heap := h, toks := tk } ((I', oI') :: (C, oC) :: (D, LCg.lst ys) :: nw) wd (k + 1)) E' { s with heap := h, toks := tk })
    (fin : ∀ ys nw, (∀ p ∈ nx, p ∈ nw) → (∀ p ∈ nw, p ∈ nx ∨ p.2.cls = .type "tuple" ∨ p ∈ all) → TupsAt nw ys (lay.map upS) → Fin ys ((I, oI) :: nw)) (hall : ∀ p ∈ all, p ∈ nx) :
    LCp.CompRestP prog w A h₀ L m env elt x x₂ scope cl s (LCg.SrcAt h₀ lv vs.toArray) (fun i v => vs.toArray[i]? = some v) Fin lay.length 0 [] ((I, oI) :: nx) := by
  have key : ∀ (j i : Nat) (ys : List Value) (nw : List (Addr × Obj)), i + j = lay.length → (∀ p ∈ nx, p ∈ nw) → (∀ p ∈ nw, p ∈ nx ∨ p.2.cls = .type "tuple" ∨ p ∈ all) → TupsAt nw ys ((lay.take i).map upS) →
      LCp.CompRestP prog w A h₀ L m env elt x x₂ scope cl s (LCg.SrcAt h₀ lv vs.toArray) (fun i v => vs.toArray[i]? = some v) Fin j i ys ((I, oI) :: nw) := by
    intro j
    induction j with
    | zero =>
      intro i ys nw hi hs ho hy
      have e : i = lay.length := by omega
      subst e
      rw [List.take_length] at hy
      exact LCp.CompRestP.zero (fin ys nw hs ho hy)
    | succ j ih =>
      intro i ys nw hi hs ho hy
      refine LCp.CompRestP.succ ?_
      intro v hv
      have hlt : i < lay.length := by omega
      obtain ⟨a, t, u, n, e, ha⟩ := ht.2 i (lay[i]'hlt).1 (lay[i]'hlt).2 (List.getElem?_eq_getElem hlt)
      have hv' : v = .ref a := by
        have : vs[i]? = some v := by simpa using hv
        rw [e] at this
        exact (Option.some.inj this).symm
      refine ⟨a, _, _, _, n, hv', .tail _ (hs _ ha), rfl, rfl, ?_⟩
      intro I' oI' C oC D m₂ h tk E' hC hx hx₂ F N off ne
      refine wpAny_mono (turn _ _ t u I' oI' C oC D m₂ ys ((I, oI) :: nw) h tk E' (List.getElem_mem hlt) hC hx hx₂ F N) (fun y s₂ hq => ?_) fun _ _ e => e
      obtain ⟨h', tk', a', t', u', n', e', rfl, F', N', l1⟩ := hq
      refine ⟨h', tk', (I, oI) :: (a', tupO (lay[i]'hlt).1 t' ((lay[i]'hlt).2 + 1) u' n') :: nw, e', F', fun p hp => N' p ?_, LCg.Off3.of fun p hp => ?_, .inr ⟨_, .tail _ (.tail _ (hs _ hm)), rfl, _, rfl⟩, ?_⟩
      · rcases List.mem_cons.mp hp with rfl | hp
        · exact .tail _ (.head _)
        · rcases List.mem_cons.mp hp with rfl | hp
          · exact .tail _ (.tail _ (.head _))
          · rcases List.mem_cons.mp hp with rfl | hp
            · exact .tail _ (.tail _ (.tail _ (.head _)))
            · rcases List.mem_cons.mp hp with rfl | hp
              · exact .tail _ (.tail _ (.tail _ (.tail _ (.head _))))
              · rcases List.mem_cons.mp hp with rfl | hp
                · exact .head _
                · exact .tail _ (.tail _ (.tail _ (.tail _ (.tail _ hp))))
      · have o3 := off.mem
        rcases List.mem_cons.mp hp with rfl | hp
        · exact o3 _ (.head _)
        · rcases List.mem_cons.mp hp with rfl | hp
          · exact ⟨Nat.ne_of_gt (l1 (I', oI') (.head _)), Nat.ne_of_gt (l1 (C, oC) (.tail _ (.head _))), Nat.ne_of_gt (l1 (D, LCg.lst ys) (.tail _ (.tail _ (.head _))))⟩
          · exact o3 p (.tail _ hp)
      · refine ih (i + 1) _ _ (by omega) (fun p hp => .tail _ (hs p hp)) (fun p hp => ?_) (tups_take (tups_mono hy (fun p hp => .tail _ hp)) (List.getElem?_eq_getElem hlt) (.head _))
        rcases List.mem_cons.mp hp with rfl | hp
        · exact .inr (.inl rfl)
        · exact ho p hp
  exact key lay.length 0 [] nx (by omega) (fun p hp => hp) (fun p hp => .inl hp) ⟨by simp, fun i w k he => by simp at he⟩
theorem ups_src {elt : PySem.Expr} {x x₂ y : Str} {env : Env} {scope : Scope} {cl : List (Str × Addr)} {Qf : Flow → Shared → Prop} (hh : A.handled = none) (F : Fr h₀ L s.heap m) (N : News h₀ L s.heap ((I, oI) :: nx)) (hcI : oI.cls = .type "list_iterator") (hm : (lv, listOf vs.toArray c) ∈ nx) (ht : TupsAt nx vs lay) (hlen : lay.length ≤ 4)
    (hq : q ∈ nx) (off : ∀ p ∈ nx, p.1 ≠ I)
    (turn : ∀ wd k t u I' oI' C oC D m₂ ys nw h₁ h tk (E' : Value → Shared → Prop), (wd, k) ∈ lay → LCg.NsObj oC m₂ → m₂ x = some (.str wd t) → m₂ x₂ = some (.int k u) → Fr h₀ L h m → News h₀ L h ((I', oI') :: (C, oC) :: (D, LCg.lst ys) :: nw) →
      wpAny (model prog w) A (eval elt (compEnvC scope cl C env)) (UpEnd h₀ L m { { s with heap := h₁ } with heap := h, toks := tk } ((I', oI') :: (C, oC) :: (D, LCg.lst ys) :: nw) wd (k + 1)) E' { { s with heap := h₁ } with heap := h, toks := tk })
    (fin : ∀ D vs' c' h' tk nx', Fr h₀ L h' (fun z => if z = y then some (.ref D) else m z) → News h₀ L h' ((I, oI) :: nx') → (D, listOf vs'.toArray c') ∈ nx' → TupsAt nx' vs' (lay.map upS) → q ∈ nx' → (∀ p ∈ nx', p.1 ≠ I) → Qf .next { s with heap := h', toks := tk }) :
    LCp.SrcLP prog w A h₀ L m env elt x x₂ scope cl (fun s₂ => LCg.FinA h₀ L m s₂ y Qf) (.ref lv) s := by
  have hl : vs.length = lay.length := ht.1
  refine LCp.SrcLP.ledger hh F N (.tail _ hm) (by rw [List.size_toArray, hl, sizeLine_eq]; omega) fun g => ?_
  rw [List.size_toArray, hl]
  refine up_rest (all := []) hm ht (fun wd k t u I' oI' C oC D m₂ ys nw h tk E' h1 h2 h3 h4 F' N' => turn wd k t u I' oI' C oC D m₂ ys nw g h tk E' h1 h2 h3 h4 F' N') (fun ys nw hs ho hy => ?_) (fun p hp => by cases hp)
  intro D h tk F' N' o1
  have gI := (N' (I, oI) (.tail _ (.head _))).1
  refine fin D ys _ h tk ((D, LCg.lst ys) :: nw) F' (fun p hp => N' p ?_) (.head _) (tups_mono hy fun p hp => .tail _ hp) (.tail _ (hs _ hq)) (fun p hp => ?_)
  · rcases List.mem_cons.mp hp with rfl | hp
    · exact .tail _ (.head _)
    · rcases List.mem_cons.mp hp with rfl | hp
      · exact .head _
      · exact .tail _ (.tail _ hp)
  · have gp : h.get? p.1 = some p.2 := by
      rcases List.mem_cons.mp hp with rfl | hp
      · exact (N' _ (.head _)).1
      · exact (N' _ (.tail _ (.tail _ hp))).1
    rcases List.mem_cons.mp hp with rfl | hp
    · exact ref_ne gp gI (list_iter_ne hcI (.inl rfl))
    · rcases ho p hp with hp | hp | hp
      · exact off p hp
      · exact ref_ne gp gI (list_iter_ne hcI (.inr hp))
      · cases hp
end
/-- the turn's end -/
theorem fl_end {h₀ : Heap} {L I lv : Addr} {s : Shared} {oI : Obj} {q : Addr × Obj} {i c : Nat} {Q : Flow → Shared → Prop} {h' : Heap} {tk : Nat} {m : Str → Option Value} {nx : List (Addr × Obj)} {text : Str} {front : Int} {l0 : SLay} {rest : List SLay} {vs : List Value} {tt tf : Tok}
    (F : Fr h₀ L h' m) (N : News h₀ L h' ((I, oI) :: nx)) (hq : q ∈ nx) (off : ∀ p ∈ nx, p.1 ≠ I) (hm : (lv, listOf vs.toArray c) ∈ nx) (ht : TupsAt nx vs (l0 :: rest)) (hL : LInv text l0 rest front (i + 1))
    (h1 : m (Str.ofString "text") = some (.str text tt)) (h2 : m (Str.ofString "front") = some (.int front tf)) (h3 : m (Str.ofString "layers") = some (.ref lv)) : FlEnd h₀ L s I oI q (JW (i + 1)) Q .next { s with heap := h', toks := tk } :=
  ⟨h', tk, m, nx, rfl, F, N, hq, off, text, front, l0, rest, lv, vs, c, tt, tf, h1, h2, h3, hm, ht, hL⟩
/-- what the layers tell is the text -/
theorem use_whole {w : World} {mean : ExcName → Option Value} {mg mb : Str → Option Value} {l : Addr} {vs : List Value} {c : Nat} {l0 : SLay} {rest : List SLay} {f : Int} {u : Tok} {text : Str} {p : Nat} {x : Addr × Obj}
    {nx : List (Addr × Obj)} (hl : (l, listOf vs.toArray c) ∈ nx) (ht : TupsAt nx vs (l0 :: rest)) (hL : LInv text l0 rest f p) (hp : p ≤ 20)
    {dp un : Nat} {gd : Option (List Code)} {cn : Str} {cs : Scope} {a : Addr} {ccd : Value} {cl : List (Str × Addr)} {outer : List Env} {A₀ : Around} {base h₀ : Heap} {L : Addr} {m : Str → Option Value} {s : Shared} {Q E : Value → Shared → Prop}
    (B : Below A₀ base outer h₀) (F : Fr h₀ L s.heap m) (X : (Mine.hd.heap_39 w.params).In h₀) (N : News h₀ L s.heap (x :: nx)) (T : Top Mine.hd.view_39 (looseW Mine.hd.view_39 [Str.ofString "_twin_re_1", Str.ofString "_twin_re_2"]) mean mg mb h₀) (hk : cs.kind = .function)
    (hd : dp + 16 < recursionLimit) (hu : un + 128 < cLine) (ret : ∀ (t : Tok) (h' : Heap) (tk' : Nat), Fr h₀ L h' m → News h₀ L h' (x :: nx) → Q (.str text t) { s with heap := h', toks := tk' }) :
    wpAny (model PySem.Challenge.rw_pg0022_01.row.prog w) (ktrTop dp un gd cn cs L a ccd cl outer) (call (.ref 92) [.ref l, .int f u]) Q E s := by
  obtain ⟨hok, hf0, hf1⟩ := linv_ok hL hp
  refine whole_c w mean mg mb l vs c l0 rest f u (x :: nx) (.tail _ hl) (tups_mono ht fun p hp => .tail _ hp) hL.len hok hf0 hf1 dp un gd cn cs a ccd cl outer A₀ base h₀ L m s Q E B F X N T hk hd hu (fun t h' tk' F' N' => ?_)
  rw [← hL.eq]
  exact ret t h' tk' F' N'
theorem ne_same1 {prog : Program} {w : World} {A : Around} {E : Value → Shared → Prop} {s : Shared} {Q : Value → Shared → Prop} {x : Str} {t u : Tok} (h : Q (.bool false) s) : wpAny (model prog w) A (compareOp .NotEq (.str x t) (.str x u)) Q E s :=
  PyProof.Rows.ne_str (by rw [bne_self_eq_false]; exact h)
theorem linv_in {text : Str} {l0 : SLay} {rest : List SLay} {front : Int} {p : Nat} (h : LInv text l0 rest front p) (h0 : rest.length ≠ 0) : LInv (quoteS text) (upS l0) (rest.map upS) (front + 0) (p + 1) := by
  have := linv_sent h
  rw [if_neg h0] at this
  exact this
theorem linv_out {text : Str} {l0 : SLay} {rest : List SLay} {front : Int} {p : Nat} (h : LInv text l0 rest front p) (h0 : rest.length = 0) : LInv (quoteS text) (upS l0) (rest.map upS) (front + 1) (p + 1) := by
  have := linv_sent h
  rw [if_pos h0] at this
  exact this

/-- what a turn knows of the layers -/
structure Tn (I : Addr) (oI : Obj) (q : Addr × Obj) (nx : List (Addr × Obj)) (lv : Addr) (vs : List Value) (c : Nat) (lay : List SLay) : Prop where
  ci : oI.cls = .type "list_iterator"
  m : (lv, listOf vs.toArray c) ∈ nx
  tp : TupsAt nx vs lay
  q : q ∈ nx
  off : ∀ p ∈ nx, p.1 ≠ I
section
variable {prog : Program} {w : World} {A : Around} {E : Value → Shared → Prop} {s : Shared} {h₀ : Heap} {L lv l3 I : Addr} {m : Str → Option Value} {all nx : List (Addr × Obj)} {oI : Obj} {q : Addr × Obj} {vs : List Value} {lay : List SLay} {c : Nat} {Q : Value → Shared → Prop}
theorem t_law {env : Env} {px : Pos} {body : List Stmt} {l : Addr} {us : List Value} {ns : List Int} {nn : Nat} {m₀ : Str → Option Value} {news : List (Addr × Obj)} {Q : Flow → Shared → Prop}
    (hh : A.handled = none) (hl : (l, listOf us.toArray nn) ∈ news) (hi : IntsAre us ns) (hn : ns.length ≤ 10) (F : Fr h₀ env.locals s.heap m₀) (N : News h₀ env.locals s.heap news)
    (hx : env.kindOf (Str.ofString "cell") = some .local) (hp : (env.scope.kind == .class || (env.scope.kind == .module && env.locals != env.globals)) = false) (h0 : JW 0 m₀ news)
    (turn : ∀ (i : Nat) (n : Int) (text : Str) (front : Int) (l0 : SLay) (rest : List SLay) (lv : Addr) (vs : List Value) (c : Nat) (tt tf t : Tok) (u : Str → Option Value) (nx : List (Addr × Obj)) (I : Addr) (oI : Obj) (h : Heap) (tk : Nat), i < 10 → LInv text l0 rest front i →
      Tn I oI (l, listOf us.toArray nn) nx lv vs c (l0 :: rest) →
      Fr h₀ env.locals h (fun y => if y = Str.ofString "cell" then some (.int n t) else kstB u [(Str.ofString "text", .str text tt), (Str.ofString "front", .int front tf), (Str.ofString "layers", .ref lv)] y) → News h₀ env.locals h ((I, oI) :: nx) →
      wpAny (model prog w) A (execs body env) (FlEnd h₀ env.locals { s with heap := h, toks := tk } I oI (l, listOf us.toArray nn) (JW (i + 1)) Q) E { s with heap := h, toks := tk })
    (done : ∀ m nx h tk, Fr h₀ env.locals h m → News h₀ env.locals h nx → Q .next { s with heap := h, toks := tk })
    (hE : PassesOwn (model prog w) A env E := by passes_own) :
    wpAny (model prog w) A (pyIter (.ref l)) (fun it s₂ => codeAny (model prog w) A (.forLoop (.Name (Str.ofString "cell") px) it body [] env) (fun r s' => match r with | .ok f => Q f s' | .error e => cameBackBy (model prog w) A env E e s') s₂) E s :=
  fl_law hh hl hi hn F N hx hp h0 (fun i n text front l0 rest lv vs c tt tf t u nx I oI h tk hi hc hL hm ht hq off F' N' => turn i n text front l0 rest lv vs c tt tf t u nx I oI h tk hi hL ⟨hc, hm, ht, hq, off⟩ F' N') done hE
theorem t_len {l0 : SLay} {rest : List SLay} (N : News h₀ L s.heap ((I, oI) :: nx)) (T : Tn I oI q nx lv vs c (l0 :: rest)) (h3 : rest.length ≤ 3) (h : ∀ (t' : Tok) (k : Nat), s.toks ≤ k → Q (.int ((rest.length : Int) + 1) t') { s with toks := k }) :
    wpAny (model prog w) A (call (.builtin "len") [.ref lv]) Q E s := lay_len (News.isList N (.tail _ T.m)) T.tp h3 h
theorem t_add {Tu : Addr} {k3 n : Nat} {wd : Str} {t u : Tok} {k : Int} {l0 : SLay} {rest : List SLay} (F : Fr h₀ L s.heap m) (N : News h₀ L s.heap all) (T : Tn I oI q nx lv vs c (l0 :: rest)) (hI : (I, oI) ∈ all) (hnx : ∀ p ∈ nx, p ∈ all)
    (hl : (l3, listOf #[Value.ref Tu] k3) ∈ all) (hT : (Tu, tupO wd t k u n) ∈ all) (hlen : rest.length ≤ 3)
    (h : ∀ D vs' c' h' nx', Fr h₀ L h' m → News h₀ L h' ((I, oI) :: nx') → Tn I oI q nx' D vs' c' (l0 :: (rest ++ [(wd, k)])) → Q (.ref D) { s with heap := h' }) :
    wpAny (model prog w) A (binaryOp .Add (.ref lv) (.ref l3)) Q E s :=
  add_layers F N hI T.ci hnx T.m T.tp hl hT T.q T.off (Nat.succ_le_succ hlen) (fun D vs' h' nx' F' N' hm ht hq off => h D vs' 0 h' nx' F' N' ⟨T.ci, hm, ht, hq, off⟩)
theorem t_cut {value slice : PySem.Expr} {l0 : SLay} {rest : List SLay} {u : Tok} (F : Fr h₀ L s.heap m) (N : News h₀ L s.heap ((I, oI) :: nx)) (T : Tn I oI q nx lv vs c (l0 :: rest)) (h0 : rest.length ≠ 0) (hlen : rest.length ≤ 3)
    (hs : subscripted slice false (.ref lv) (.ref s.heap.objs.size) = operate [.ref s.heap.objs.size, .ref lv] (getItem (.ref lv) (.ref s.heap.objs.size))) (hp : ∀ r, letTemporaryGo value (.ref lv) r = pure ())
    (h : ∀ D vs' c' h' nx', Fr h₀ L h' m → News h₀ L h' ((I, oI) :: nx') → Tn I oI q nx' D vs' c' (l0 :: rest.dropLast) → Q (.ref D) { s with heap := h' }) :
    wpAny (model prog w) A (subscriptTail value slice (.ref lv) (.ref s.heap.objs.size)) Q E { s with heap := s.heap.push { cls := .type "slice", data := .fields #[.none, .int (-1) u, .none] } } :=
  cut_layers F N T.ci T.m T.tp h0 T.q T.off hlen hs hp (fun D vs' h' nx' F' N' hm ht hq off => h D vs' 0 h' nx' F' N' ⟨T.ci, hm, ht, hq, off⟩)
theorem t_ups {elt : PySem.Expr} {x x₂ y : Str} {env : Env} {scope : Scope} {cl : List (Str × Addr)} {Qf : Flow → Shared → Prop} {l0 : SLay} {rest : List SLay} (hh : A.handled = none) (F : Fr h₀ L s.heap m) (N : News h₀ L s.heap ((I, oI) :: nx)) (T : Tn I oI q nx lv vs c (l0 :: rest)) (hlen : rest.length ≤ 3)
    (turn : ∀ wd k t u I' oI' C oC D m₂ ys nw h₁ h tk (E' : Value → Shared → Prop), (wd, k) ∈ l0 :: rest → LCg.NsObj oC m₂ → m₂ x = some (.str wd t) → m₂ x₂ = some (.int k u) → Fr h₀ L h m → News h₀ L h ((I', oI') :: (C, oC) :: (D, LCg.lst ys) :: nw) →
      wpAny (model prog w) A (eval elt (compEnvC scope cl C env)) (UpEnd h₀ L m { { s with heap := h₁ } with heap := h, toks := tk } ((I', oI') :: (C, oC) :: (D, LCg.lst ys) :: nw) wd (k + 1)) E' { { s with heap := h₁ } with heap := h, toks := tk })
    (fin : ∀ D vs' c' h' tk nx', Fr h₀ L h' (fun z => if z = y then some (.ref D) else m z) → News h₀ L h' ((I, oI) :: nx') → Tn I oI q nx' D vs' c' (upS l0 :: rest.map upS) → Qf .next { s with heap := h', toks := tk }) :
    LCp.SrcLP prog w A h₀ L m env elt x x₂ scope cl (fun s₂ => LCg.FinA h₀ L m s₂ y Qf) (.ref lv) s :=
  ups_src hh F N T.ci T.m T.tp (Nat.succ_le_succ hlen) T.q T.off turn (fun D vs' c' h' tk nx' F' N' hm ht hq off => fin D vs' c' h' tk nx' F' N' ⟨T.ci, hm, ht, hq, off⟩)
end
theorem t_end {h₀ : Heap} {L I lv : Addr} {s : Shared} {oI : Obj} {q : Addr × Obj} {i c : Nat} {Q : Flow → Shared → Prop} {h' : Heap} {tk : Nat} {m : Str → Option Value} {nx : List (Addr × Obj)} {text : Str} {front : Int} {l0 : SLay} {rest : List SLay} {vs : List Value} {tt tf : Tok}
    (F : Fr h₀ L h' m) (N : News h₀ L h' ((I, oI) :: nx)) (T : Tn I oI q nx lv vs c (l0 :: rest)) (hL : LInv text l0 rest front (i + 1))
    (h1 : m (Str.ofString "text") = some (.str text tt)) (h2 : m (Str.ofString "front") = some (.int front tf)) (h3 : m (Str.ofString "layers") = some (.ref lv)) : FlEnd h₀ L s I oI q (JW (i + 1)) Q .next { s with heap := h', toks := tk } :=
  fl_end F N T.q T.off T.m T.tp hL h1 h2 h3
theorem t_whole {w : World} {mean : ExcName → Option Value} {mg mb : Str → Option Value} {l : Addr} {vs : List Value} {c : Nat} {l0 : SLay} {rest : List SLay} {f : Int} {u : Tok} {text : Str} {p : Nat} {I : Addr} {oI : Obj} {q : Addr × Obj}
    {nx all : List (Addr × Obj)} (T₀ : Tn I oI q nx l vs c (l0 :: rest)) (hL : LInv text l0 rest f p) (hp : p ≤ 20)
    {dp un : Nat} {gd : Option (List Code)} {cn : Str} {cs : Scope} {a : Addr} {ccd : Value} {cl : List (Str × Addr)} {outer : List Env} {A₀ : Around} {base h₀ : Heap} {L : Addr} {m : Str → Option Value} {s : Shared} {Q E : Value → Shared → Prop}
    (B : Below A₀ base outer h₀) (F : Fr h₀ L s.heap m) (X : (Mine.hd.heap_39 w.params).In h₀) (N : News h₀ L s.heap all) (hsub : ∀ p ∈ (I, oI) :: nx, p ∈ all) (T : Top Mine.hd.view_39 (looseW Mine.hd.view_39 [Str.ofString "_twin_re_1", Str.ofString "_twin_re_2"]) mean mg mb h₀) (hk : cs.kind = .function)
    (hd : dp + 16 < recursionLimit) (hu : un + 128 < cLine) (ret : ∀ (t : Tok) (h' : Heap) (tk' : Nat), LInv text l0 rest f p → Fr h₀ L h' m → News h₀ L h' ((I, oI) :: nx) → Q (.str text t) { s with heap := h', toks := tk' }) :
    wpAny (model PySem.Challenge.rw_pg0022_01.row.prog w) (ktrTop dp un gd cn cs L a ccd cl outer) (call (.ref 92) [.ref l, .int f u]) Q E s :=
  by
    obtain ⟨hok, hf0, hf1⟩ := linv_ok hL hp
    refine whole_c w mean mg mb l vs c l0 rest f u all (hsub _ (.tail _ T₀.m)) (tups_mono T₀.tp fun p hp => hsub _ (.tail _ hp)) hL.len hok hf0 hf1 dp un gd cn cs a ccd cl outer A₀ base h₀ L m s Q E B F X N T hk hd hu (fun t h' tk' F' N' => ?_)
    rw [← hL.eq]
    exact ret t h' tk' hL F' (fun p hp => N' p (hsub p hp))
theorem linv_two {text : Str} {l0 : SLay} {rest : List SLay} {front : Int} {p : Nat} (_ : LInv text l0 rest front p) : rest.length = 0 ∨ rest.length ≠ 0 := by omega
theorem ne_bools {prog : Program} {w : World} {A : Around} {E : Value → Shared → Prop} {s : Shared} {Q : Value → Shared → Prop} {b c : Bool} (e : b = c) (h : Q (.bool false) s) : wpAny (model prog w) A (compareOp .NotEq (.bool b) (.bool c)) Q E s :=
  PyProof.Rows.ne_bool (by rw [e, bne_self_eq_false]; exact h)
theorem no_depth {n : Nat} (h : n ≠ 0) : false = ((n : Int) + 1 - 1 == 0) := (beq_eq_false_iff_ne.mpr (by omega)).symm
theorem is_depth {n : Nat} (h : n = 0) : true = ((n : Int) + 1 - 1 == 0) := (beq_iff_eq.mpr (by omega)).symm
end Mine
end
section
open PySem PySem.W PyProof.Rows
set_option maxRecDepth 100000
set_option maxHeartbeats 20000000
namespace Mine
open Rx L1 Tk Fl
local macro_rules | `(tactic| walk_at "binaryOp Add ref ref") => `(tactic| (k_here; (with_reducible show wpAny _ _ (binaryOp _ (Value.ref _) (Value.ref _)) _ _ _); k_dflt (refine' add_abs 10 ?F ?N ?a ?b ?i ?j ?e ?n ?_; (case F => k_asm); (case N => k_asm); (case a => kmk_list); (case b => kmk_list); (case i => l_ints); (case j => l_ints); (case e => omega); (case n => decide)); intro D' ws' h' cs hcl F' N' l1 hI'; (try k_lt l1); (try k_sweep); (try dsimp only)))
local macro_rules | `(tactic| walk_at "KPfDone") => `(tactic| ((refine kpf_len 10 (take10 _) ?_); walk_at "KPfDone"))
local macro_rules | `(tactic| walk_at "subscriptTail") => `(tactic| (k_here; (with_reducible show wpAny _ _ (subscriptTail (PySem.Expr.List _ _) (PySem.Expr.Slice _ _ none _) (Value.ref _) (Value.ref _)) _ _ _); walk_at "last subscriptTail"))
local macro_rules | `(tactic| walk_at "subscriptTail Name Slice ref ref") => `(tactic| (k_here; (with_reducible show wpAny _ _ (subscriptTail _ (PySem.Expr.Slice (some _) none none _) (Value.ref _) (Value.ref _)) _ _ _); k_dflt (refine' slice_tail (s := ⟨_, _, _, _, _⟩) ?F ?N ?l ?i ?k0 ?k1 ?kn ?s ?t ?_; (case F => k_asm); (case N => k_asm); (case l => kmk_list); (case i => l_ints); (case k0 => omega); (case k1 => first | omega | (simp only [List.length_cons, List.length_nil]; omega)); (case kn => decide); (case s => with_unfolding_all rfl); (case t => kmk_pure)); intro D' ws' h' ms' hm' F' N' l1 hI'; (try simp only [List.length_cons, List.length_nil] at hm'); (try k_lt l1); (try k_sweep); (try dsimp only)))
local macro_rules | `(tactic| walk_at "call builtin:len") => `(tactic| (k_here; (with_reducible show wpAny _ _ (call (Value.builtin "len") [Value.ref _]) _ _ _); k_dflt (refine' lenA ?k1 ?k2 ?k3 ?_; (case k1 => is_list); (case k2 => first | assumption | l_ints); (case k3 => omega); k_whole); intro t9 k9 hk9; (try dsimp only at hk9); (try dsimp only)))
local macro_rules | `(tactic| walk_at "CompSrc") => `(tactic| (k_here; (with_reducible show LCg.CompSrc _ _ _ _ _ _ _ (Expr.Subscript (Expr.Constant (Const.str _) _ _) _ _) _ _ _ _ _ _); k_dflt (refine LCg.CompSrc.ledger (by rfl) (by k_asm) (by k_asm) (by k_mem) (by kcf_size) ?_; intro g'; (refine' kct_signs (by first | assumption | l_ints) (fun k' t' I' oI' C' oC' D' m' ys' h' tk' E' hk' hC' hx' F' N' off' ne' => ?_) ?_); (all_goals (try ((show KPfMark → _); intro hMark'))); kcf_last)))
local macro_rules | `(tactic| walk_at "CompEnd") => `(tactic| (k_dflt (refine kct_end (by assumption) (by assumption) (by assumption) (by lcg_src))))
local macro_rules | `(tactic| walk_at "call builtin:str.join") => `(tactic| (k_here; (with_reducible show wpAny _ _ (call (Value.builtin "str.join") [Value.str _ _, Value.ref _]) _ _ _); (with_reducible rename CarriedAll _ (List.map _ _) => ktC); k_dflt (refine' joinP 1 ?k1 ktC ?k2 ?k3 ?_; (case k1 => first | assumption | is_list | exact News.isList (by k_asm) (by k_mem)); (case k2 => exact signs_len _); (case k3 => omega)); intro t9 k9 hk9; (try dsimp only at hk9); (try dsimp only)))
local macro_rules | `(tactic| walk_at "call builtin:len") => `(tactic| (k_here; (with_reducible show wpAny _ _ (call (Value.builtin "len") [Value.ref _]) _ _ _); (with_reducible rename Tn _ _ _ _ _ _ _ _ => tn9); k_dflt ((refine' t_len ?k1 tn9 ?k3 ?_); (case k1 => k_asm); (case k3 => with_reducible exact LInv.len (by assumption))); intro t9 k9 hk9; (try dsimp only at hk9); (try dsimp only)))
local macro_rules | `(tactic| walk_at "exec For Name Name cons nil") => `(tactic| (k_here; k_dflt (refine wpAny_For ?_ (by intro _; rfl))))
local macro_rules | `(tactic| walk_at "pyIter ref") => `(tactic| (k_here; (rename Fr _ _ _ _ => lF'); (rename News _ _ _ _ => lN'); k_dflt ((refine' t_law ?hh ?hl ?hi ?hn lF' lN' ?hx ?hp ?h0 ?_ ?_); (case hh => rfl); (case hl => k_mem); (case hi => assumption); (case hn => omega); (case hx => rfl); (case hp => rfl); (case h0 => (refine' jw_start ?g1 ?g2 ?g3 ?g4 ?g5 ?g6; (case g1 => rfl); (case g2 => rfl); (case g3 => rfl); (case g4 => k_mem); (case g5 => k_mem); (case g6 => assumption)))); clear lF' lN'; intro i9 n9 text9 front9 l09 rest9 lv9 vs9 c9 tt9 tf9 t9 u9 nx9 I9 oI9 h9 tk9 hi9 hL9 tn9 F9 N9; (try dsimp only [kstB] at F9); (try k_fold)))
local macro_rules | `(tactic| walk_at "subscriptTail") => `(tactic| (k_here; (with_reducible show wpAny _ _ (subscriptTail (PySem.Expr.List _ _) _ (Value.ref _) (Value.int (Int.fmod _ 6) _)) _ _ _); k_dflt ((refine' tail_item ?k1 ?k2 ?k3 ?_); (case k1 => exact News.isList (by k_asm) (by k_mem)); (case k2 => exact strs6); (case k3 => with_unfolding_all rfl)); intro t9 tail9 htl9 hel9; (try dsimp only)))
local macro_rules | `(tactic| walk_at "call builtin:str.replace") => `(tactic| (k_here; (have hll9 := linv_len (by with_reducible assumption) (by omega)); k_dflt (refine' replaceP 2 ?kz ?ku ?kv ?kw ?ky ?kb ?_; (case kz => exact two_len); (case ku => first | omega | (dsimp only; omega)); (case kv => first | omega | (dsimp only; omega)); (case kw => first | omega | (dsimp only; omega)); (case ky => decide +kernel); (case kb => omega)); intro t9 k9 hk9 hl9; (try dsimp only at hk9); (try dsimp only)))
local macro_rules | `(tactic| walk_at "binaryOp Add str str") => `(tactic| (k_here; k_dflt (refine' addP 100000 ?k1 ?k2 ?_; (case k1 => first | omega | exact Nat.le_trans head_len (by decide)); (case k2 => first | omega | exact Nat.le_trans (Nat.add_le_add_left one_len _) (by decide))); intro t9 k9 hk9 he9 hl9; (try dsimp only at hk9); (try dsimp only)))
local macro_rules | `(tactic| walk_at "binaryOp Add ref ref") => `(tactic| (k_here; (with_reducible rename Tn _ _ _ _ _ _ _ _ => tn9); k_dflt ((refine' t_add ?F ?N tn9 ?hI ?hnx ?hl ?hT ?hlen ?_); (case F => k_asm); (case N => k_asm); (case hl => exact List.Mem.head _); (case hT => exact .tail _ (.head _)); (case hI => k_mem); (case hnx => (intro p hp; repeat (first | exact hp | apply List.mem_cons_of_mem))); (case hlen => with_reducible exact LInv.len (by assumption))); intro D9 vs9 c9 h9 nx9 F9 N9 tn9; (try dsimp only)))
local macro_rules | `(tactic| walk_at "call ref") => `(tactic| (k_here; (with_reducible show wpAny _ _ (call (Value.ref 80) _) _ _ _); (have hll9 := linv_len (by with_reducible assumption) (by omega)); k_dflt ((refine' use_c (quotedata_c _ _ _ _ _ _ _) ?k1 ?k2 ?k3 ?k4 ?k5 ?kK ?kp ?kd ?ku ?_); (case k1 => k_asm); (case k2 => k_asm); (case k3 => k_asm); (case k4 => k_asm); (case k5 => k_asm); (case kK => first | exact rfl | assumption); (case kp => omega); (case kd => ktr_room); (case ku => ktr_units); k_whole; intro t9 h9 tk9 hs9 F9 N9; (try dsimp only at hs9); (try dsimp only); (try k_fold))))
local macro_rules | `(tactic| walk_at "call ref") => `(tactic| (k_here; (with_reducible show wpAny _ _ (call (Value.ref 99) _) _ _ _); (have hll9 := linv_len (by with_reducible assumption) (by omega)); (with_reducible rename LInv _ _ _ _ _ => hli9); ((rcases linv_two hli9 with h09 | h09) <;> (first | (exfalso; omega) | ((have hz9 := linv_no257 hli9 h09); k_dflt ((refine' law_read_no _ _ _ _ _ _ _ _ _ _ _ _ _ _ _ _ _ ?kz ?kp ?k1 ?k2 ?k3 ?k4 ?k5 ?kK ?_); (case kz => exact hz9); (case kp => omega); (case k1 => k_asm); (case k2 => k_asm); (case k3 => k_asm); (case k4 => k_asm); (case k5 => k_asm); (case kK => first | exact rfl | assumption); k_whole; intro h9 tk9 F9 N9; (try dsimp only); (try k_fold))) | ((have hz9 := linv_257 hli9 h09); k_dflt ((refine' use_cc (law_read_ok _ _ _ _ _ _) ?k1 ?k2 ?k3 ?k4 ?k5 ?kK ?kp ?kd ?ku ?_); (case k1 => k_asm); (case k2 => k_asm); (case k3 => k_asm); (case k4 => k_asm); (case k5 => k_asm); (case kK => first | exact rfl | assumption); (case kp => exact ⟨by omega, hz9⟩); (case kd => ktr_room); (case ku => ktr_units); k_whole; intro t9 h9 tk9 hs9 F9 N9; (try dsimp only at hs9); (try dsimp only); (try k_fold)))))))
local macro_rules | `(tactic| walk_at "call ref") => `(tactic| (k_here; (with_reducible show wpAny _ _ (call (Value.ref 92) _) _ _ _); (with_reducible rename Tn _ _ _ _ _ _ _ _ => tn9); (with_reducible rename LInv _ _ _ _ _ => hli9); k_dflt ((refine' t_whole tn9 ?hL ?hp ?k1 ?k2 ?k3 ?k4 ?hs ?k5 ?kK ?kd ?ku ?_); (case hL => first | exact linv_wrap hli9 (by omega) (by assumption) | exact linv_in hli9 (by omega) | exact linv_out hli9 (by omega) | exact linv_read hli9 (by omega) | exact linv_mono hli9); (case hp => omega); (case k1 => k_asm); (case k2 => k_asm); (case k3 => k_asm); (case k4 => k_asm); (case hs => (intro p hp; repeat (first | exact hp | apply List.mem_cons_of_mem))); (case k5 => k_asm); (case kK => first | exact rfl | assumption); (case kd => ktr_room); (case ku => ktr_units); k_whole; intro t9 h9 tk9 hli9 F9 N9; (try dsimp only); (try k_fold))))
local macro_rules | `(tactic| walk_at "SrcLP") => `(tactic| (k_here; (with_reducible rename Tn _ _ _ _ _ _ _ _ => tn9); k_dflt ((refine' t_ups ?hh ?F ?N tn9 ?hl (fun wd9 k9 t9 u9 I9 oI9 C9 oC9 D9 m9 ys9 nw9 g9 h9 tk9 E9 hwk9 hC9 hx9 hy9 F9 N9 => ?_) (fun D9 vs9 c9 h9 tk9 nx9 F9 N9 tn9 => ?_)); (case hh => rfl); (case F => k_asm); (case N => k_asm); (case hl => with_reducible exact LInv.len (by assumption))); (try dsimp only)))
local macro_rules | `(tactic| walk_at "newTuple") => `(tactic| (k_here; (with_reducible show wpAny _ _ (newTuple _) (UpEnd _ _ _ _ _ _ _) _ _); k_dflt (exact up_end (by k_asm) (by k_asm))))
local macro_rules | `(tactic| walk_at "compareOp NotEq bool bool") => `(tactic| (k_here; k_dflt (refine' ne_bools ?e ?_; (case e => first | exact no_depth (by assumption) | exact is_depth (by assumption)))))
local macro_rules | `(tactic| walk_at "compareOp NotEq str str") => `(tactic| (k_here; (with_reducible refine ne_same1 ?_)))
local macro_rules | `(tactic| walk_at "subscriptTail Name Slice ref ref") => `(tactic| (k_here; (with_reducible show wpAny _ _ (subscriptTail _ (PySem.Expr.Slice none (some _) none _) (Value.ref _) (Value.ref _)) _ _ _); (with_reducible rename Tn _ _ _ _ _ _ _ _ => tn9); k_dflt ((refine' t_cut (s := ⟨_, _, _, _, _⟩) ?F ?N tn9 ?h0 ?hl ?hs ?hp ?_); (case F => k_asm); (case N => k_asm); (case h0 => assumption); (case hl => with_reducible exact LInv.len (by assumption)); (case hs => with_unfolding_all rfl); (case hp => kmk_pure)); intro D9 vs9 c9 h9 nx9 F9 N9 tn9; (try dsimp only)))
local macro_rules | `(tactic| walk_at "FlEnd") => `(tactic| ((with_reducible rename Tn _ _ _ _ _ _ _ _ => tn9); (with_reducible rename LInv _ _ _ _ _ => hli9); k_dflt (exact t_end (by k_asm) (by k_asm) tn9 hli9 (by rfl) (by rfl) (by rfl))))
theorem law1 : PySem.Challenge.rw_pg0022_01.Holds := Mine.hd (by
  w_top off
  k_with_none
  w_strict (k_go0; (all_goals try k_fold); (repeat' (first | (k_unfold; (try dsimp only)) | walk1 | (dsimp only; walk1) | (leave1; try dsimp only) | fail "no step")); all_goals (first | (k_end; wrow_close) | ((try dsimp only); k_end; wrow_close) | trace_state)))
end Mine
end
theorem PySem.Challenge.cw_pg0022_01_holds : PySem.Challenge.rw_pg0022_01.Holds := by
  exact Mine.law1
