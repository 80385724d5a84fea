import PyProof.Rows.All
import Wide.All
import OpenK.AllK
import Wide.FinOn
import Lean
import PySem.Challenge.RW_pg0022_02
set_option Elab.async false
section
open PySem PySem.W PyProof.Rows
namespace Mine
set_option maxRecDepth 100000
set_option maxHeartbeats 8000000
open_top hd for PySem.Challenge.rw_pg0022_02
end Mine
end
section
open PySem PySem.Sre
set_option linter.unusedSimpArgs false
namespace Mine
namespace Rx
def c1 : Array Nat := #[14, 4, 0, 1, 1, 6, 1, 16, 46, 1]
def c2 : Array Nat := #[14, 9, 4, 1, 2, 16, 10, 16, 13, 0, 7, 7, 16, 13, 16, 10, 15, 18, 5, 16, 10, 15, 13, 11, 16, 13, 5, 5, 0, 16, 10, 1, 15, 2, 0, 1]

def Ends (n : Nat) (m : M) (P : M → Prop) : Prop := ∃ k, k ≤ n ∧ (M.runFor k m).outcome.isSome = true ∧ P (M.runFor k m)

theorem runFor_succ {n : Nat} {m : M} (h : m.outcome = none) : M.runFor (n + 1) m = M.runFor n m.step := by
  rw [M.runFor]; simp [h]
theorem runFor_done {n : Nat} {m : M} (h : m.outcome.isSome = true) : M.runFor n m = m := by
  cases n with
  | zero => rfl
  | succ n => rw [M.runFor]; simp [h]
theorem Ends.step {n : Nat} {m : M} {P : M → Prop} (h0 : m.outcome = none) (h : Ends n m.step P) : Ends (n + 1) m P := by
  obtain ⟨k, hk, h1, h2⟩ := h
  refine ⟨k + 1, by omega, ?_, ?_⟩ <;> rw [runFor_succ h0] <;> assumption
theorem Ends.done {n : Nat} {m : M} {P : M → Prop} (h0 : m.outcome.isSome = true) (h : P m) : Ends n m P := ⟨0, by omega, h0, h⟩
theorem Ends.mono {n n' : Nat} {m : M} {P P' : M → Prop} (h : Ends n m P) (hn : n ≤ n') (hP : ∀ m, P m → P' m) : Ends n' m P' := by
  obtain ⟨k, hk, h1, h2⟩ := h
  exact ⟨k, by omega, h1, hP _ h2⟩
theorem runFor_later {j k : Nat} {m : M} (h : (M.runFor k m).outcome.isSome = true) (hj : k ≤ j) : M.runFor j m = M.runFor k m := by
  induction k generalizing j m with
  | zero => exact runFor_done h
  | succ k ih =>
    obtain ⟨j, rfl⟩ : ∃ i, j = i + 1 := ⟨j - 1, by omega⟩
    by_cases hd : m.outcome.isSome = true
    · rw [runFor_done hd, runFor_done hd]
    · have h0 : m.outcome = none := by simpa using hd
      rw [runFor_succ h0] at h ⊢
      rw [runFor_succ h0]
      exact ih h (by omega)
theorem runFor_add {j k : Nat} {m : M} : M.runFor (j + k) m = M.runFor k (M.runFor j m) := by
  induction j generalizing m with
  | zero => simp [M.runFor]
  | succ j ih =>
    by_cases hd : m.outcome.isSome = true
    · rw [runFor_done hd, runFor_done hd, runFor_done hd]
    · have h0 : m.outcome = none := by simpa using hd
      rw [show j + 1 + k = (j + k) + 1 by omega, runFor_succ h0, runFor_succ h0]
      exact ih

@[reducible] def A1 (T : Array Nat) (lim q : Nat) (sn : Seen) (first : Bool) : M :=
  { code := c1, text := T, lim := lim, start := q, lastStart := lim, wholeText := false, mustAdvance := false, pc := 5, pos := q, handed := q, outermost := first, marks := #[], lastmark := -1, lastindex := -1, loops := #[], inner := none,
    frames := [{ wait := .nextStart, pc := 5, pos := q, outermost := first }], weight := 1, answer := none, seen := sn, outcome := none }

def bol (T : Array Nat) (q : Nat) : Bool := q == 0 || T.getD (q - 1) 0 == 10
def hit1 (T : Array Nat) (q : Nat) : Bool := bol T q && T.getD q 0 == 46

theorem a1_hit {T lim q sn first} (h : hit1 T q = true) (hq : q < lim) : Ends 5 (A1 T lim q sn first) (fun m => m.outcome = some .matched ∧ m.start = q ∧ m.handed = q + 1) := by
  unfold hit1 bol at h
  simp at h
  obtain ⟨h1, h2⟩ := h
  refine Ends.step rfl ?_
  simp [M.step, M.exec, M.word, c1, ops, M.isAt, M.say, h1]
  refine Ends.step rfl ?_
  simp [M.step, M.exec, M.word, c1, ops, M.isAt, M.say, h1, accepts, h2, itemWidth, Nat.not_le.mpr hq]
  refine Ends.step rfl ?_
  simp [M.step, M.exec, M.word, c1, ops, M.isAt, M.say, h1, accepts, h2, itemWidth, Nat.not_le.mpr hq]
  refine Ends.step rfl ?_
  simp [M.step, M.resume, M.say]
  refine Ends.step rfl ?_
  simp [M.step]
  exact Ends.done rfl (by simp)

theorem a1_miss {T lim q sn first} (h : hit1 T q = false) (hq : q < lim) {P : M → Prop} {n : Nat} (hn : ∀ sn', Ends n (A1 T lim (q + 1) sn' false) P) : Ends (n + 3) (A1 T lim q sn first) P := by
  unfold hit1 at h
  by_cases hb : bol T q = true
  · rw [hb] at h
    unfold bol at hb
    simp at h hb
    have h3 : (T[q]?.getD 0 == 46) = false := by simpa using h
    refine Ends.step rfl ?_
    simp [M.step, M.exec, M.word, c1, ops, M.isAt, M.say, hb]
    refine Ends.step rfl ?_
    simp [M.step, M.exec, M.word, c1, ops, M.isAt, M.say, accepts, h3, itemWidth, Nat.not_le.mpr hq]
    refine Ends.step rfl ?_
    simp [M.step, M.resume, M.say, hq, M.attemptFrom, M.hasFirstSet, ops, M.attemptAt, M.attempt]
    exact hn _
  · have hb' : bol T q = false := by simpa using hb
    unfold bol at hb'
    simp at hb'
    refine Ends.mono (n := n + 2) ?_ (by omega) (fun _ x => x)
    refine Ends.step rfl ?_
    simp [M.step, M.exec, M.word, c1, ops, M.isAt, M.say, hb']
    refine Ends.step rfl ?_
    simp [M.step, M.resume, M.say, hq, M.attemptFrom, M.hasFirstSet, ops, M.attemptAt, M.attempt]
    exact hn _

theorem a1_end {T lim sn first} : Ends 4 (A1 T lim lim sn first) (fun m => m.outcome = some .failed) := by
  by_cases hb : bol T lim = true
  · unfold bol at hb
    simp at hb
    refine Ends.step rfl ?_
    simp [M.step, M.exec, M.word, c1, ops, M.isAt, M.say, hb]
    refine Ends.step rfl ?_
    simp [M.step, M.exec, M.word, c1, ops, M.isAt, M.say, accepts, itemWidth]
    refine Ends.step rfl ?_
    simp [M.step, M.resume, M.say, M.attemptFrom, M.hasFirstSet, ops, M.attemptAt, M.attempt]
    refine Ends.step rfl ?_
    simp [M.step]
    exact Ends.done rfl (by simp)
  · have hb' : bol T lim = false := by simpa using hb
    unfold bol at hb'
    simp at hb'
    refine Ends.mono (n := 3) ?_ (by omega) (fun _ x => x)
    refine Ends.step rfl ?_
    simp [M.step, M.exec, M.word, c1, ops, M.isAt, M.say, hb']
    refine Ends.step rfl ?_
    simp [M.step, M.resume, M.say, M.attemptFrom, M.hasFirstSet, ops, M.attemptAt, M.attempt]
    refine Ends.step rfl ?_
    simp [M.step]
    exact Ends.done rfl (by simp)

/-- what a search says -/
def Says (r : Option (Nat × Nat)) (m : M) : Prop := match r with
  | none => m.outcome = some .failed
  | some (q, e) => m.outcome = some .matched ∧ m.start = q ∧ m.handed = e

def find1 (T : Array Nat) : Nat → Nat → Option (Nat × Nat)
  | 0, _ => none
  | d + 1, q => if hit1 T q then some (q, q + 1) else find1 T d (q + 1)

theorem a1_run {T : Array Nat} {lim : Nat} : ∀ (d q : Nat), q + d = lim → ∀ (sn : Seen) (first : Bool), Ends (3 * d + 5) (A1 T lim q sn first) (Says (find1 T d q))
  | 0, q, h, sn, first => by
    obtain rfl : q = lim := by omega
    exact a1_end.mono (by omega) (fun m h => h)
  | d + 1, q, h, sn, first => by
    unfold find1
    by_cases hh : hit1 T q = true
    · rw [if_pos hh]
      exact (a1_hit hh (by omega)).mono (by omega) (fun m h => h)
    · rw [if_neg hh]
      exact (a1_miss (by simpa using hh) (by omega) (fun sn' => a1_run d (q + 1) (by omega) sn' false)).mono (by omega) (fun m h => h)

theorem search1 {T : Array Nat} {q d : Nat} (h : q + d = T.size) : Ends (3 * d + 6) (forSearch c1 T 0 q T.size false) (Says (find1 T d q)) := by
  by_cases h0 : d = 0
  · subst h0
    have e : forSearch c1 T 0 q T.size false = { (forSearch c1 T 0 q T.size false) with answer := some false, frames := [], outcome := none } := by
      unfold forSearch
      simp only [header, c1, ops]
      simp
      rw [if_pos (.inr (by omega))]
      rfl
    rw [e]
    refine Ends.step rfl ?_
    simp [M.step]
    exact Ends.done rfl (by simp [find1, Says])
  · have e : ∃ sn, forSearch c1 T 0 q T.size false = A1 T T.size q sn true := by
      refine ⟨({} : Seen).add 14, ?_⟩
      unfold forSearch
      simp only [header, c1, ops]
      simp
      rw [if_neg (by omega)]
      rfl
    obtain ⟨sn, e⟩ := e
    rw [e]
    exact (a1_run d q h sn true).mono (by omega) (fun m h => h)

@[reducible] def A2 (T : Array Nat) (lim q : Nat) (sn : Seen) (first : Bool) : M :=
  { code := c2, text := T, lim := lim, start := q, lastStart := lim, wholeText := false, mustAdvance := false, pc := 10, pos := q, handed := q, outermost := first, marks := #[], lastmark := -1, lastindex := -1, loops := #[], inner := none,
    frames := [{ wait := .nextStart, pc := 10, pos := q, outermost := first }], weight := 1, answer := none, seen := sn, outcome := none }

theorem a2_crlf {T lim q sn first} (h1 : T.getD q 0 = 13) (h2 : T.getD (q + 1) 0 = 10) (hq : q + 1 < lim) : Ends 8 (A2 T lim q sn first) (fun m => m.outcome = some .matched ∧ m.start = q ∧ m.handed = q + 2) := by
  simp at h1 h2
  have hq0 : ¬ lim ≤ q := by omega
  have hq1 : ¬ lim ≤ q + 1 := by omega
  refine Ends.step rfl ?_
  simp [M.step, M.exec, M.word, c2, ops, M.say, M.alternative, M.keep, M.attempt, M.frame]
  refine Ends.step rfl ?_
  simp [M.step, M.exec, M.word, ops, M.say, accepts, itemWidth, h1, h2, hq0, hq1]
  refine Ends.step rfl ?_
  simp [M.step, M.exec, M.word, ops, M.say, accepts, itemWidth, h1, h2, hq0, hq1]
  refine Ends.step rfl ?_
  simp [M.step, M.exec, M.word, ops, M.say]
  refine Ends.step rfl ?_
  simp [M.step, M.exec, M.word, ops, M.say]
  refine Ends.step rfl ?_
  simp [M.step, M.resume, M.say]
  refine Ends.step rfl ?_
  simp [M.step, M.resume, M.say]
  refine Ends.step rfl ?_
  simp [M.step]
  exact Ends.done rfl (by simp)

theorem a2_lf {T lim q sn first} (h1 : T.getD q 0 = 10) (hq : q < lim) : Ends 10 (A2 T lim q sn first) (fun m => m.outcome = some .matched ∧ m.start = q ∧ m.handed = q + 1) := by
  simp at h1
  have hq0 : ¬ lim ≤ q := by omega
  refine Ends.step rfl ?_
  simp [M.step, M.exec, M.word, c2, ops, M.say, M.alternative, M.keep, M.attempt, M.frame]
  refine Ends.step rfl ?_
  simp [M.step, M.exec, M.word, ops, M.say, accepts, itemWidth, h1, hq0]
  refine Ends.step rfl ?_
  simp [M.step, M.resume, M.say, M.alternative, M.putBack, M.attempt, M.frame]
  refine Ends.step rfl ?_
  simp [M.step, M.exec, M.word, ops, M.say, accepts, itemWidth, h1, hq0]
  refine Ends.step rfl ?_
  simp [M.step, M.exec, M.word, ops, M.say]
  refine Ends.step rfl ?_
  simp [M.step, M.exec, M.word, ops, M.say]
  refine Ends.step rfl ?_
  simp [M.step, M.resume, M.say]
  refine Ends.step rfl ?_
  simp [M.step, M.resume, M.say]
  refine Ends.step rfl ?_
  simp [M.step]
  exact Ends.done rfl (by simp)

theorem a2_cr {T lim q sn first} (h1 : T.getD q 0 = 13) (h2 : q + 1 < lim → T.getD (q + 1) 0 ≠ 10) (hq : q < lim) : Ends 16 (A2 T lim q sn first) (fun m => m.outcome = some .matched ∧ m.start = q ∧ m.handed = q + 1) := by
  simp at h1 h2
  have hq0 : ¬ lim ≤ q := by omega
  refine Ends.step rfl ?_
  simp [M.step, M.exec, M.word, c2, ops, M.say, M.alternative, M.keep, M.attempt, M.frame]
  refine Ends.step rfl ?_
  simp [M.step, M.exec, M.word, ops, M.say, accepts, itemWidth, h1, hq0]
  by_cases hq1 : lim ≤ q + 1
  · refine Ends.step rfl ?_
    simp [M.step, M.exec, M.word, ops, M.say, accepts, itemWidth, h1, hq0, hq1]
    refine Ends.step rfl ?_
    simp [M.step, M.resume, M.say, M.alternative, M.putBack, M.attempt, M.frame]
    refine Ends.step rfl ?_
    simp [M.step, M.exec, M.word, ops, M.say, accepts, itemWidth, h1, hq0]
    refine Ends.step rfl ?_
    simp [M.step, M.resume, M.say, M.alternative, M.putBack, M.attempt, M.frame]
    refine Ends.step rfl ?_
    simp [M.step, M.exec, M.word, ops, M.say, accepts, itemWidth, h1, hq0]
    refine Ends.step rfl ?_
    simp [M.step, M.exec, M.word, ops, M.say, M.attempt, M.frame, M.keep]
    refine Ends.step rfl ?_
    simp [M.step, M.exec, M.word, ops, M.say, accepts, itemWidth, h1, hq0, hq1]
    refine Ends.step rfl ?_
    simp [M.step, M.resume, M.word, M.say, M.putBack]
    refine Ends.step rfl ?_
    simp [M.step, M.exec, M.word, ops, M.say]
    refine Ends.step rfl ?_
    simp [M.step, M.exec, M.word, ops, M.say]
    refine Ends.step rfl ?_
    simp [M.step, M.resume, M.say]
    refine Ends.step rfl ?_
    simp [M.step, M.resume, M.say]
    refine Ends.step rfl ?_
    simp [M.step]
    exact Ends.done rfl (by simp)
  · have h3 : (T[q + 1]?.getD 0 == 10) = false := by simpa using h2 (by omega)
    refine Ends.step rfl ?_
    simp [M.step, M.exec, M.word, ops, M.say, accepts, itemWidth, h1, h3, hq0, hq1]
    refine Ends.step rfl ?_
    simp [M.step, M.resume, M.say, M.alternative, M.putBack, M.attempt, M.frame]
    refine Ends.step rfl ?_
    simp [M.step, M.exec, M.word, ops, M.say, accepts, itemWidth, h1, hq0]
    refine Ends.step rfl ?_
    simp [M.step, M.resume, M.say, M.alternative, M.putBack, M.attempt, M.frame]
    refine Ends.step rfl ?_
    simp [M.step, M.exec, M.word, ops, M.say, accepts, itemWidth, h1, hq0]
    refine Ends.step rfl ?_
    simp [M.step, M.exec, M.word, ops, M.say, M.attempt, M.frame, M.keep]
    refine Ends.step rfl ?_
    simp [M.step, M.exec, M.word, ops, M.say, accepts, itemWidth, h1, h3, hq0, hq1]
    refine Ends.step rfl ?_
    simp [M.step, M.resume, M.word, M.say, M.putBack]
    refine Ends.step rfl ?_
    simp [M.step, M.exec, M.word, ops, M.say]
    refine Ends.step rfl ?_
    simp [M.step, M.exec, M.word, ops, M.say]
    refine Ends.step rfl ?_
    simp [M.step, M.resume, M.say]
    refine Ends.step rfl ?_
    simp [M.step, M.resume, M.say]
    refine Ends.step rfl ?_
    simp [M.step]
    exact Ends.done rfl (by simp)

def nl (c : Nat) : Bool := c == 10 || c == 13

def find2 (T : Array Nat) : Nat → Nat → Option (Nat × Nat)
  | 0, _ => none
  | d + 1, q => if nl (T.getD q 0) then some (q, if T.getD q 0 == 13 && d != 0 && T.getD (q + 1) 0 == 10 then q + 2 else q + 1) else find2 T d (q + 1)

theorem inSet2 (c : Nat) (sn : Seen) : ∃ sn', inSet c2 c 36 5 true sn = .ok (nl c, sn') := by
  by_cases h : c = 10
  · subst h
    exact ⟨_, by simp [inSet, c2, ops, nl]; rfl⟩
  · by_cases h2 : c = 13
    · subst h2
      exact ⟨_, by simp [inSet, c2, ops, nl]; rfl⟩
    · exact ⟨_, by simp [inSet, c2, ops, nl, h, h2]; rfl⟩

theorem admitted2 {T : Array Nat} {m : M} (hc : m.code = c2) (ht : m.text = T) : ∀ (d q : Nat) (sn : Seen), q + d = m.lim → ∃ sn', M.admitted m (d + 1) q sn = .ok ((find2 T d q).map (·.1), sn')
  | 0, q, sn, h => ⟨sn, by rw [M.admitted]; simp [find2, show m.lim ≤ q by omega]⟩
  | d + 1, q, sn, h => by
    obtain ⟨sn', e⟩ := inSet2 (T.getD q 0) sn
    have hs : c2.size = 36 := rfl
    rw [M.admitted, if_neg (by omega), hc, ht, hs, e]
    unfold find2
    cases hn : nl (T.getD q 0) with
    | true => exact ⟨sn', by simp⟩
    | false =>
      obtain ⟨sn'', e'⟩ := admitted2 hc ht d (q + 1) sn' (by omega)
      exact ⟨sn'', by simpa using e'⟩

theorem find2_spec {T : Array Nat} : ∀ (d q : Nat) {r e : Nat}, find2 T d q = some (r, e) → q ≤ r ∧ r < q + d ∧ nl (T.getD r 0) = true ∧ e = (if T.getD r 0 == 13 && r + 1 != q + d && T.getD (r + 1) 0 == 10 then r + 2 else r + 1)
  | 0, q, r, e, h => by simp [find2] at h
  | d + 1, q, r, e, h => by
    unfold find2 at h
    by_cases hn : nl (T.getD q 0) = true
    · rw [if_pos hn] at h
      obtain ⟨rfl, rfl⟩ := by simpa only [Option.some.injEq, Prod.mk.injEq] using h
      have : (d != 0) = (q + 1 != q + (d + 1)) := by
        rw [Bool.eq_iff_iff]
        simp only [bne_iff_ne, ne_eq]
        omega
      refine ⟨by omega, by omega, hn, by rw [this]⟩
    · rw [if_neg hn] at h
      have := find2_spec d (q + 1) h
      rw [show q + 1 + d = q + (d + 1) by omega] at this
      exact ⟨by omega, this.2⟩

theorem search2 {T : Array Nat} {q d : Nat} (h : q + d = T.size) : Ends 17 (forSearch c2 T 0 q T.size false) (Says (find2 T d q)) := by
  by_cases h0 : d = 0
  · subst h0
    have e : forSearch c2 T 0 q T.size false = { (forSearch c2 T 0 q T.size false) with answer := some false, frames := [], outcome := none } := by
      unfold forSearch
      simp only [header, c2, ops]
      simp
      rw [if_pos (.inr (by omega))]
      rfl
    rw [e]
    refine Ends.step rfl ?_
    exact Ends.done rfl (by simp [find2, Says, M.step])
  · have key : ∃ m : M, m.code = c2 ∧ m.text = T ∧ m.lim = T.size ∧ m.frames = [] ∧ m.outcome = none ∧ forSearch c2 T 0 q T.size false = m.attemptFrom q true ∧ m.hasFirstSet = true ∧
        (∀ r sn, { m with mustAdvance := false, seen := sn }.attemptAt r true = A2 T T.size r sn true) := by
      refine ⟨{ (A2 T T.size q (({} : Seen).add 14) true) with frames := [], weight := 0 }, rfl, rfl, rfl, rfl, rfl, ?_, rfl, ?_⟩
      · unfold forSearch
        simp only [header, c2, ops]
        simp
        rw [if_neg (by omega)]
        rfl
      · intro r sn
        rfl
    obtain ⟨m, hc, ht, hl, hf, ho, e, hs, hA⟩ := key
    rw [e]
    unfold M.attemptFrom
    rw [hs]
    obtain ⟨sn', ea⟩ := admitted2 (T := T) hc ht d q m.seen (by omega)
    rw [show m.lim + 1 - q = d + 1 by omega, ea]
    cases hf2 : find2 T d q with
    | none =>
      simp only [Bool.not_true, Bool.false_eq_true, if_false, Option.map_none]
      refine Ends.step (by simp [M.say, ho]) ?_
      simp [M.step, M.say, ho, hf]
      exact Ends.done rfl (by simp [Says])
    | some p =>
      obtain ⟨r, e2⟩ := p
      simp only [Bool.not_true, Bool.false_eq_true, if_false, Option.map_some, hA]
      obtain ⟨h1, h2, h3, h4⟩ := find2_spec d q hf2
      rw [show q + d = T.size from h] at h2 h4
      unfold nl at h3
      by_cases h10 : T.getD r 0 = 10
      · have he : e2 = r + 1 := by rw [h4, h10]; simp
        subst he
        exact (a2_lf h10 h2).mono (by omega) (fun m x => x)
      · have h13 : T.getD r 0 = 13 := by
          rcases Bool.or_eq_true_iff.mp h3 with x | x
          · exact absurd (by simpa using x) h10
          · simpa using x
        rw [h13] at h4
        by_cases hh : r + 1 < T.size ∧ T.getD (r + 1) 0 = 10
        · have he : e2 = r + 2 := by
            rw [h4, hh.2, if_pos]
            simp; omega
          subst he
          exact (a2_crlf h13 hh.2 hh.1).mono (by omega) (fun m x => x)
        · have he : e2 = r + 1 := by
            rw [h4, if_neg]
            simp
            intro hne
            by_cases hl : r + 1 < T.size
            · intro h9
              exact hh ⟨hl, by simpa using h9⟩
            · omega
          subst he
          exact (a2_cr h13 (fun hl h9 => hh ⟨hl, h9⟩) h2).mono (by omega) (fun m x => x)
end Rx
end Mine
end
section
open PySem PySem.W PyProof.Rows
namespace Mine
theorem plainAttrs_rep : PlainAttrs "re.Pattern" :=
  ⟨⟨"object.__getattribute__", by rw [typeLookup_type, builtinLookup_eq_fast]; kernel_rfl, by decide +kernel⟩, by rw [typeLookup_type, builtinLookup_eq_fast]; kernel_rfl⟩
theorem slot_sub : Slot "re.Pattern" "sub" "re.Pattern.sub" :=
  .of (owner := "re.Pattern") (n := "sub") (by rw [typeLookup_type, builtinLookup_eq_fast]; kernel_rfl) (by decide +kernel) (by decide +kernel) (by decide +kernel)
    (by first | exact .inl (by decide +kernel) | exact .inr (by decide +kernel)) (by rw [isSubtype_type]; kernel_rfl)
theorem type_sub : typeOf (.builtin "re.Pattern.sub") = pure (.type "method_descriptor") := by show builtinType _ = _; rw [builtinType_eq_fast]; kernel_rfl
theorem entry_sub : entryFor table "re.Pattern.sub" = some Builtin.«re.Pattern.sub» := entryFor_of_tree (by kernel_rfl)
theorem entry_subloop : entryFor table "re.Pattern.sub.loop" = some Builtin.«re.Pattern.sub.loop» := entryFor_of_tree (by kernel_rfl)
theorem owner_rep : Manifest.owners.lookup (String.ofList "re.Pattern".toList.reverse.reverse) = some Manifest.sig_re_Pattern := by kernel_rfl
theorem args_sub_3 (a b c : Value) : argsOk "re.Pattern.sub" ⟨[a, b, c], []⟩ := by
  unfold argsOk; rw [signature?_of (id := "re.Pattern.sub") (n := ['b', 'u', 's']) (o := "re.Pattern".toList.reverse) (by kernel_rfl) owner_rep]; kernel_rfl
end Mine
end
section
open PySem PySem.W PyProof.Rows PySem.Sre PySem.Builtin PySem.Builtin.Re
set_option linter.unusedSimpArgs false
set_option linter.unusedVariables false
namespace Mine
namespace Rx
section
variable {Mo : Model} {A : Around} {E : Value → Shared → Prop} {s : Shared}

theorem drive {P : Sre.M → Prop} : ∀ (turns n : Nat) (m : Sre.M) {Q : Sre.M → Shared → Prop}, Ends n m P → n ≤ 4 * turns → 0 < turns →
    (∀ m', m'.outcome.isSome = true → P m' → Q m' s) → wpAny Mo A (reDrive turns m) Q E s
  | 0, _, _, _, _, _, h0, _ => absurd h0 (Nat.lt_irrefl 0)
  | turns + 1, n, m, Q, h, hn, _, hQ => by
    obtain ⟨k, hk, h1, h2⟩ := h
    unfold reDrive
    show wpAny Mo A (if (m.runFor 4).outcome.isSome = true then pure (m.runFor 4) else (do rule "sre.turn"; reDrive turns (m.runFor 4))) Q E s
    by_cases hd : (m.runFor 4).outcome.isSome = true
    · rw [if_pos hd]
      have e : Sre.M.runFor 4 m = Sre.M.runFor k m := by
        rcases Nat.le_total k 4 with hle | hle
        · exact runFor_later h1 hle
        · exact (runFor_later hd hle).symm
      rw [e]
      exact wpAny_pure (hQ _ h1 h2)
    · rw [if_neg hd]
      have hk4 : 4 < k := by
        rcases Nat.lt_or_ge 4 k with hlt | hge
        · exact hlt
        · exact absurd (by rw [runFor_later h1 hge]; exact h1) hd
      have ek : Sre.M.runFor k m = Sre.M.runFor (k - 4) (Sre.M.runFor 4 m) := by rw [← runFor_add]; congr 1; omega
      refine wpAny_bind (wpAny_rule (drive turns (k - 4) _ ⟨k - 4, Nat.le_refl _, ?_, ?_⟩ (by omega) (by omega) hQ))
      · rw [← ek]; exact h1
      · rw [← ek]; exact h2

theorem rules (m : Sre.M) : ∀ (l : List Nat) {Q : PUnit → Shared → Prop}, Q ⟨⟩ s →
    wpAny Mo A (forIn l PUnit.unit (fun i r => do
      if m.seen.has i = true then do
          rule (Sre.names.getD i "")
          pure (ForInStep.yield PUnit.unit)
        else pure (ForInStep.yield PUnit.unit))) Q E s
  | [], Q, h => wpAny_pure h
  | i :: l, Q, h => by
    rw [List.forIn_cons]
    refine wpAny_bind ?_
    by_cases hc : m.seen.has i = true
    · rw [if_pos hc]
      exact wpAny_bind (wpAny_rule (wpAny_pure (rules m l h)))
    · rw [if_neg hc]
      exact wpAny_pure (rules m l h)

theorem runToEnd {r : Option (Nat × Nat)} {n : Nat} {m : Sre.M} {Q : Option Sre.M → Shared → Prop} (h : Ends n m (Says r)) (hn : n ≤ 2 ^ 65)
    (hQ : ∀ o : Option Sre.M, (match r with | none => o = none | some (q, e) => ∃ m', o = some m' ∧ m'.start = q ∧ m'.handed = e) → Q o s) : wpAny Mo A (reRunToEnd m) Q E s := by
  unfold reRunToEnd
  refine wpAny_bind (drive (2 ^ 64) n m h (by omega) (by omega) (fun m' h1 h2 => ?_))
  refine wpAny_bind (rules m' _ ?_)
  unfold Says at h2
  cases r with
  | none =>
    simp only at h2
    rw [h2]
    exact wpAny_pure (hQ none rfl)
  | some p =>
    obtain ⟨q, e⟩ := p
    simp only at h2
    rw [h2.1]
    exact wpAny_pure (hQ (some m') ⟨m', rfl, h2.2⟩)

structure IsPat (h : Heap) (P : Addr) (code : Array Nat) : Prop where
  has : ∃ (o oc : Obj) (C : Addr) (pv fl : Value) (items : Array Value) (n : Nat), h.get? P = some o ∧ o.cls = .type "re.Pattern" ∧ o.dict = none ∧
    o.data = .fields #[pv, fl, .int 0 0, .none, .none, .ref C, .int 0 0] ∧ h.get? C = some oc ∧ oc.data = .seq items n ∧ (items.map reRawOf).map (·.toNat) = code
theorem IsPat.keeps {h h' : Heap} {P : Addr} {code : Array Nat} (p : IsPat h P code) (hk : ∀ b o, h.get? b = some o → h'.get? b = some o) : IsPat h' P code := by
  obtain ⟨o, oc, C, pv, fl, items, n, h1, h2, h3, h4, h5, h6, h7⟩ := p.has
  exact ⟨o, oc, C, pv, fl, items, n, hk _ _ h1, h2, h3, h4, hk _ _ h5, h6, h7⟩

theorem wholeTarget {P : Addr} {code : Array Nat} {x : Str} {t : Tok} {Q : ReTarget → Shared → Prop} (p : IsPat s.heap P code)
    (hQ : Q { pattern := .ref P, string := .str x t, code := code, text := x.cps, kind := 0, groups := 0, pos := 0, lim := x.cps.size } s) :
    wpAny Mo A (reWholeTarget (.ref P) (.str x t)) Q E s := by
  obtain ⟨o, oc, C, pv, fl, items, n, h1, h2, h3, h4, h5, h6, h7⟩ := p.has
  unfold reWholeTarget
  refine wpAny_bind (wpAny_fieldsOf h1 h4 ?_)
  unfold reTextOf asStr?
  refine wpAny_bind (wpAny_pure ?_)
  show wpAny Mo A (reRawItems (.ref C) >>= fun l => pure ({ pattern := .ref P, string := .str x t, code := l.map (·.toNat), text := x.cps, kind := 0, groups := 0, pos := 0, lim := x.cps.size } : ReTarget)) Q E s
  unfold reRawItems
  refine wpAny_bind (wpAny_bind (wpAny_seqItems h5 h6 (wpAny_pure (wpAny_pure ?_))))
  show Q { pattern := .ref P, string := .str x t, code := (items.map reRawOf).map (·.toNat), text := x.cps, kind := 0, groups := 0, pos := 0, lim := x.cps.size } s
  rw [h7]
  exact hQ

def pieces (find : Nat → Nat → Option (Nat × Nat)) (T : Array Nat) (rp : Str) : (fuel d q : Nat) → List Str
  | 0, _, _ => []
  | fuel + 1, d, q => match find d q with
    | none => if 0 < d then [⟨T.extract q (q + d)⟩] else []
    | some (r, e) => (if q < r then [⟨T.extract q r⟩] else []) ++ rp :: pieces find T rp fuel (q + d - e) e

end
section
variable {prog : Program} {w : World} {A : Around} {E : Value → Shared → Prop}

def glue (l : List Str) : Str := ⟨(l.flatMap (·.cps.toList)).toArray⟩

theorem join_nil_eq (l : List Str) : Txt.join ⟨#[]⟩ l = glue l := by
  show Builtin.Str.glued ⟨#[]⟩ l = _
  rw [StrLaws.glued_eq_join]
  induction l with
  | nil => rfl
  | cons x l ih =>
    cases l with
    | nil => simp [PySem.Str.join, glue]
    | cons y l =>
      have e : PySem.Str.join ⟨#[]⟩ (x :: y :: l) = x ++ ⟨#[]⟩ ++ PySem.Str.join ⟨#[]⟩ (y :: l) := rfl
      rw [e, ih]
      apply PySem.Str.ext'
      simp only [PySem.Str.cps_append, glue]
      simp

theorem pushW {D : Addr} {s : Shared} {items : Array Value} {k : Nat} {v : Value} {Q : Unit → Shared → Prop} (hl : s.heap.get? D = some { cls := .type "list", data := .seq items k }) (hz : items.size ≤ sizeLine)
    (h : ∀ h' k', h'.get? D = some { cls := .type "list", data := .seq (items.push v) k' } → (∀ b, b ≠ D → h'.get? b = s.heap.get? b) → Q () { s with heap := h' }) :
    wpAny (model prog w) A (updateSeq D (·.push v)) Q E s := by
  refine wpAny_updateSeq hl rfl ?_ hz (by rw [Array.size_push]; omega)
  refine h _ (k + 1) ?_ (fun b hb => (Heap.SameBut.update s.heap D _).2 b hb)
  rw [Heap.get?_update_self _ hl (by rw [Obj.mapSeq_push_plain]; rfl), Obj.mapSeq_push_plain]

theorem slice_text {T : Array Nat} {b e : Nat} {s : Shared} {Q : Value → Shared → Prop} (hT : T.size ≤ 1000000) (h : Q (.str ⟨T.extract b e⟩ s.toks) { s with toks := s.toks + 1 }) :
    wpAny (model prog w) A (reSlice T 0 b e) Q E s := by
  show wpAny (model prog w) A (mkStr ⟨T.extract b e⟩) Q E s
  refine wpAny_mkStr h ?_
  show (T.extract b e).size ≤ sizeLine
  rw [Array.size_extract, sizeLine_eq]
  omega

theorem stopW {T : Array Nat} {D : Addr} {s : Shared} {items : Array Value} {k : Nat} {ys : List Str} {R : Result → Shared → Prop} {F : PySem.Fin → Shared → Prop} (hT : T.size ≤ 1000000) (hl : s.heap.get? D = some { cls := .type "list", data := .seq items k }) (hi : StrsAre items.toList ys)
    (hs : (ys.map (·.length)).sum ≤ 16777216) (hF : ∀ tk t', F (.done (.ret (.str (glue ys) t'))) { s with toks := tk }) :
    wpAny (model prog w) A (do
      let joiner ← reSlice T 0 0 0
      let its ← seqItems? (.ref D)
      if (its.getD #[]).isEmpty then ret joiner
        else call (.builtin "str.join") [joiner, .ref D] >>= fun text => ret text) F E s := by
  refine wpAny_bind (slice_text hT ?_)
  refine wpAny_bind (wpAny_seqItems (s := { s with toks := s.toks + 1 }) hl rfl ?_)
  have e0 : T.extract 0 0 = #[] := by simp
  rw [e0]
  by_cases hc : items.isEmpty = true
  · have hne : items = #[] := by simpa using hc
    subst hne
    cases hi
    show wpAny (model prog w) A (ret _) F E _
    exact wpAny_pure (hF _ _)
  · have hc' : ((some items).getD #[]).isEmpty = false := by simpa using hc
    rw [hc']
    show wpAny (model prog w) A (call (.builtin "str.join") [.str ⟨#[]⟩ s.toks, .ref D] >>= fun text => ret text) F E _
    refine wpAny_bind (join_list (ys := ys) ⟨_, hl, rfl, k, rfl⟩ hi (by show _ + _ * 0 ≤ _; omega) (fun t' k' => ?_))
    rw [join_nil_eq]
    exact wpAny_pure (hF _ _)

theorem subLoop {find : Nat → Nat → Option (Nat × Nat)} {code : Array Nat} {x rp : Str} {t tr : Tok} {P D : Addr} {N : Nat} {h₀ : Heap}
    (hfind : ∀ q d, q + d = x.cps.size → Ends N (forSearch code x.cps 0 q x.cps.size false) (Says (find d q))) (hN : N ≤ 2 ^ 65)
    (hspec : ∀ d q r e, find d q = some (r, e) → q ≤ r ∧ r < e ∧ e ≤ q + d) (hx : x.cps.size ≤ 1000000) (hrp : rp.cps.size ≤ 8) (hD : h₀.get? D = none) {R : Result → Shared → Prop} :
    ∀ (fuel d q : Nat), d < fuel → q + d = x.cps.size → ∀ (s : Shared) (n : Int) (items : Array Value) (k : Nat) (ys : List Str), s.heap.get? D = some { cls := .type "list", data := .seq items k } → StrsAre items.toList ys →
      (∀ b o, h₀.get? b = some o → s.heap.get? b = some o) → IsPat h₀ P code → items.size ≤ 2 * q → (ys.map (·.length)).sum ≤ 9 * q →
      (∀ (h' : Heap) (tk : Nat) (t' : Tok), (∀ b o, h₀.get? b = some o → h'.get? b = some o) → R (.ok (.ret (.str (glue (ys ++ pieces find x.cps rp fuel d q)) t'))) { s with heap := h', toks := tk }) →
      codeAny (model prog w) A (.builtin "re.Pattern.sub.loop" ⟨[.ref P, .str x t, .str rp tr, rawInt 0, rawInt 0, rawInt n, rawInt q, rawInt q, .bool false, .ref D, .bool false], []⟩) R s
  | 0, d, q, hf, _, _, _, _, _, _, _, _, _, _, _, _, _ => absurd hf (Nat.not_lt_zero _)
  | fuel + 1, d, q, hf, hq, s, n, items, k, ys, hl, hi, hk, hp, hz, hs, hR => by
    have hbD : ∀ b o, h₀.get? b = some o → b ≠ D := fun b o hb e => by rw [e, hD] at hb; cases hb
    have sl : sizeLine = 16777216 := sizeLine_eq
    refine codeAny_builtin entry_subloop ?_
    rw [Around.under_plainId (by decide +kernel)]
    unfold «re.Pattern.sub.loop»
    refine wpAny_bind (wholeTarget (hp.keeps hk) ?_)
    let tg : ReTarget := { pattern := .ref P, string := .str x t, code := code, text := x.cps, kind := 0, groups := 0, pos := 0, lim := x.cps.size }
    let goOn : Sre.M → Sem Fin := fun m => (do
      updateSeq D (·.push (.str rp tr))
      again (.builtin "re.Pattern.sub.loop" ⟨[.ref P, .str x t, .str rp tr, rawInt 0, rawInt 0, rawInt (n + 1), rawInt m.handed, rawInt m.handed, .bool (m.handed == m.start), .ref D, .bool false], []⟩))
    let stop : Sem Fin := (do
      let joiner ← reSlice x.cps 0 0 0
      let its ← seqItems? (.ref D)
      if (its.getD #[]).isEmpty then ret joiner
        else call (.builtin "str.join") [joiner, .ref D] >>= fun text => ret text)
    show wpAny (model prog w) A.in1 (reNextFound tg q false >>= fun o => match o with
      | some m => if q < m.start then (do
            let piece ← reSlice x.cps 0 q m.start
            updateSeq D (·.push piece)
            goOn m) else goOn m
      | none => if q < x.cps.size then (do
            let piece ← reSlice x.cps 0 q x.cps.size
            updateSeq D (·.push piece)
            stop) else stop) _ _ s
    refine wpAny_bind (runToEnd (hfind q d hq) hN (fun o ho => ?_))
    unfold pieces at hR
    cases hfd : find d q with
    | none =>
      rw [hfd] at ho hR
      simp only at ho hR
      subst ho
      show wpAny (model prog w) A.in1 (if q < x.cps.size then (do
            let piece ← reSlice x.cps 0 q x.cps.size
            updateSeq D (·.push piece)
            stop) else stop) _ _ s
      by_cases hlt : q < x.cps.size
      · rw [if_pos hlt]
        rw [if_pos (by omega)] at hR
        refine wpAny_bind (slice_text hx ?_)
        refine wpAny_bind (pushW (s := { s with toks := s.toks + 1 }) hl (by rw [sl]; omega) (fun h' k' hl' hk' => ?_))
        refine stopW (ys := ys ++ [⟨x.cps.extract q (q + d)⟩]) (R := R) hx hl' ?_ ?_ (fun tk t' => ?_)
        · rw [Array.toList_push]
          exact StrsAre.append' hi (by rw [hq]; exact .cons _ _ .nil)
        · rw [List.map_append, List.sum_append]
          simp only [List.map_cons, List.map_nil, List.sum_cons, List.sum_nil]
          have : (PySem.Str.mk (x.cps.extract q (q + d))).length ≤ 1000000 := by
            show (x.cps.extract q (q + d)).size ≤ _
            rw [Array.size_extract]; omega
          omega
        · exact hR h' tk t' (fun b o hb => (hk' b (hbD b o hb)).trans (hk b o hb))
      · rw [if_neg hlt]
        rw [if_neg (by omega)] at hR
        refine stopW (ys := ys ++ []) (R := R) hx hl (by rw [List.append_nil]; exact hi) (by rw [List.append_nil]; omega) (fun tk t' => ?_)
        exact hR _ tk t' hk
    | some p =>
      obtain ⟨r, e⟩ := p
      rw [hfd] at ho hR
      simp only at ho hR
      obtain ⟨m, rfl, hm1, hm2⟩ := ho
      obtain ⟨h1, h2, h3⟩ := hspec d q r e hfd
      have goes : ∀ (s' : Shared) (items' : Array Value) (k' : Nat) (ys' : List Str), s'.heap.get? D = some { cls := .type "list", data := .seq items' k' } → StrsAre items'.toList ys' → (∀ b o, h₀.get? b = some o → s'.heap.get? b = some o) →
          items'.size ≤ 2 * r + 1 → (ys'.map (·.length)).sum ≤ 9 * r → (∀ (h' : Heap) (tk : Nat) (t' : Tok), (∀ b o, h₀.get? b = some o → h'.get? b = some o) → R (.ok (.ret (.str (glue (ys' ++ rp :: pieces find x.cps rp fuel (q + d - e) e)) t'))) { s' with heap := h', toks := tk }) →
          wpAny (model prog w) A.in1 (goOn m) (fun fin s' => match fin with | .done f => R (.ok f) s' | .again c' => c'.quiet = true ∧ codeAny (model prog w) A c' R s') (fun e s' => R (.error e) s') s' := by
        intro s' items' k' ys' hl' hi' hk' hz' hs' hR'
        refine wpAny_bind (pushW hl' (by rw [sl]; omega) (fun h'' k'' hl'' hk'' => ?_))
        refine wpAny_pure ⟨plainId_quiet (by decide +kernel) _, ?_⟩
        rw [hm1, hm2, show (e == r) = false by simp; omega]
        refine subLoop hfind hN hspec hx hrp hD fuel (q + d - e) e (by omega) (by omega) _ _ _ k'' (ys' ++ [rp]) hl'' ?_ ?_ hp ?_ ?_ ?_
        · rw [Array.toList_push]
          exact StrsAre.append' hi' (.cons _ _ .nil)
        · exact fun b o hb => (hk'' b (hbD b o hb)).trans (hk' b o hb)
        · rw [Array.size_push]; omega
        · rw [List.map_append, List.sum_append]
          simp only [List.map_cons, List.map_nil, List.sum_cons, List.sum_nil]
          have : rp.length ≤ 8 := hrp
          omega
        · intro h3 tk t' hk3
          rw [List.append_assoc]
          exact hR' h3 tk t' hk3
      show wpAny (model prog w) A.in1 (if q < m.start then (do
            let piece ← reSlice x.cps 0 q m.start
            updateSeq D (·.push piece)
            goOn m) else goOn m) _ _ s
      rw [hm1]
      by_cases hlt : q < r
      · rw [if_pos hlt]
        rw [if_pos hlt] at hR
        refine wpAny_bind (slice_text hx ?_)
        refine wpAny_bind (pushW (s := { s with toks := s.toks + 1 }) hl (by rw [sl]; omega) (fun h' k' hl' hk' => ?_))
        refine goes _ _ k' (ys ++ [⟨x.cps.extract q r⟩]) hl' ?_ ?_ ?_ ?_ ?_
        · rw [Array.toList_push]
          exact StrsAre.append' hi (.cons _ _ .nil)
        · exact fun b o hb => (hk' b (hbD b o hb)).trans (hk b o hb)
        · rw [Array.size_push]; omega
        · rw [List.map_append, List.sum_append]
          simp only [List.map_cons, List.map_nil, List.sum_cons, List.sum_nil]
          have : (PySem.Str.mk (x.cps.extract q r)).length ≤ r - q := by
            show (x.cps.extract q r).size ≤ _
            rw [Array.size_extract]; omega
          omega
        · intro h3 tk t' hk3
          rw [List.append_assoc]
          exact hR h3 tk t' hk3
      · rw [if_neg hlt]
        rw [if_neg hlt] at hR
        exact goes s items k ys hl hi hk (by omega) (by omega) (fun h3 tk t' hk3 => hR h3 tk t' hk3)
end
end Rx
end Mine
end
section
open PySem PySem.W PyProof.Rows PySem.Sre PySem.Builtin PySem.Builtin.Re
set_option linter.unusedSimpArgs false
set_option linter.unusedVariables false
namespace Mine
namespace Rx
section
variable {prog : Program} {w : World} {A : Around} {E : Value → Shared → Prop}

theorem getMethod_sub {s : Shared} {P : Addr} {code : Array Nat} {pl : Sem Bool} {Q : Value × List Value → Shared → Prop} (p : IsPat s.heap P code)
    (h : Q (.builtin "re.Pattern.sub", [.ref P]) s) : wpAny (model prog w) A (getMethod (.ref P) "sub" pl) Q E s := by
  obtain ⟨o, oc, C, pv, fl, items, n, h1, h2, h3, h4, h5, h6, h7⟩ := p.has
  exact getMethod_builtin ⟨o, h1, h2⟩ plainAttrs_rep slot_sub type_sub (fun a e => by cases e; exact ⟨o, h1, h3⟩) h

theorem str_no_call : typeLookup (.type "str") "__call__" = pure none := by rw [typeLookup_type, builtinLookup_eq_fast]; kernel_rfl

theorem fresh_none (h : Heap) : h.get? h.objs.size = none := by
  cases e : h.get? h.objs.size with
  | none => rfl
  | some o => exact absurd (Heap.lt_size e) (Nat.lt_irrefl _)

theorem named_sub (a b : Value) : reNamed "re.Pattern.sub" "sub" ["repl", "string", "count"] 2 [a, b] [] = pure [some a, some b, none] := rfl

theorem subCall {find : Nat → Nat → Option (Nat × Nat)} {code : Array Nat} {x rp : Str} {t tr : Tok} {P : Addr} {N : Nat} {s : Shared} {Q : Value → Shared → Prop}
    (hfind : ∀ q d, q + d = x.cps.size → Ends N (forSearch code x.cps 0 q x.cps.size false) (Says (find d q))) (hN : N ≤ 2 ^ 65)
    (hspec : ∀ d q r e, find d q = some (r, e) → q ≤ r ∧ r < e ∧ e ≤ q + d) (hx : x.cps.size ≤ 1000000) (hrp : rp.cps.size ≤ 8) (hr92 : rp.cps.contains 92 = false) (hp : IsPat s.heap P code)
    (hQ : ∀ (h' : Heap) (tk : Nat) (t' : Tok), (∀ b o, s.heap.get? b = some o → h'.get? b = some o) → Q (.str (glue (pieces find x.cps rp (x.cps.size + 1) x.cps.size 0)) t') { s with heap := h', toks := tk }) :
    wpAny (model prog w) A (call (.builtin "re.Pattern.sub") [.ref P, .str rp tr, .str x t]) Q E s := by
  obtain ⟨o, oc, C, pv, fl, items, n, h1, h2, h3, h4, h5, h6, h7⟩ := hp.has
  refine wpAny_call (codeAny_call_builtin slot_sub.plain entry_sub (slot_sub.check _ _ _ _ _ _ _ _ ⟨o, h1, h2⟩ (args_sub_3 _ _ _) ?_))
  unfold «re.Pattern.sub» reSubstitute
  show wpAny (model prog w) A.in1 (reNamed "re.Pattern.sub" "sub" ["repl", "string", "count"] 2 [.str rp tr, .str x t] [] >>= _) _ _ s
  rw [named_sub]
  refine wpAny_bind (wpAny_pure ?_)
  show wpAny (model prog w) A.in1 ((pure (0 : Int) : Sem Int) >>= _) _ _ s
  refine wpAny_bind (wpAny_pure ?_)
  refine wpAny_bind (wpAny_specialOf (typeIs_str _ _ _) str_no_call ?_)
  have fin : wpAny (model prog w) A.in1 (holding [.str rp tr] (reWholeTarget (.ref P) (.str x t)) >>= fun _ => newList [] >>= fun l => again
      (Code.builtin "re.Pattern.sub.loop" ⟨[.ref P, .str x t, .str rp tr, rawInt 0, rawInt 0, rawInt 0, rawInt 0, rawInt 0, Value.bool false, l, Value.bool false], []⟩))
      (fun fin s' => match fin with | .done f => (match (Except.ok f : Result) with | .ok (.ret v) => Q v s' | .ok _ => False | .error e => E e s') | .again c' => c'.quiet = true ∧ codeAny (model prog w) A c' (fun r s' => match r with | .ok (.ret v) => Q v s' | .ok _ => False | .error e => E e s') s')
      (fun e s' => E e s') s := by
    refine wpAny_bind (wpAny_holding (wholeTarget hp ?_))
    refine wpAny_bind (wpAny_newList ?_ (by decide))
    refine wpAny_pure ⟨plainId_quiet (by decide +kernel) _, ?_⟩
    refine subLoop (q := 0) (h₀ := s.heap) hfind hN hspec hx hrp (fresh_none _) (x.cps.size + 1) x.cps.size (by omega) (by omega) _ 0 #[] 0 [] (Heap.get?_push_size _ rfl) .nil (fun b o hb => Heap.get?_push_of_some _ hb) hp (by simp) (by simp) ?_
    intro h' tk t' hk
    exact hQ h' tk t' hk
  have hl : (!rp.cps.contains 92) = true := by rw [hr92]; rfl
  show wpAny (model prog w) A.in1 (asStr? (.str rp tr) >>= _) _ _ s
  refine wpAny_bind (wpAny_pure ?_)
  show wpAny (model prog w) A.in1 ((pure (!rp.cps.contains 92) : Sem Bool) >>= _) _ _ s
  refine wpAny_bind (wpAny_pure ?_)
  rw [hl]
  exact fin
end
end Rx
end Mine
end
section
open PySem PySem.W PyProof.Rows PySem.Sre PySem.Builtin PySem.Builtin.Re
set_option linter.unusedSimpArgs false
set_option linter.unusedVariables false
namespace Mine
namespace Rx

def dotL : Bool → List Nat → List Nat
  | _, [] => []
  | b, c :: r => (if b && c == 46 then [46, 46] else [c]) ++ dotL (c == 10) r

def crlfL : List Nat → List Nat
  | [] => []
  | 13 :: 10 :: r => 13 :: 10 :: crlfL r
  | c :: r => if nl c then 13 :: 10 :: crlfL r else c :: crlfL r

theorem drop_cons {T : Array Nat} {q : Nat} (h : q < T.size) : T.toList.drop q = T.getD q 0 :: T.toList.drop (q + 1) := by
  rw [List.drop_eq_getElem_cons (by simpa using h)]
  simp [Array.getD, h]

theorem extract_cons {T : Array Nat} {q r : Nat} (h : q < r) (hr : r ≤ T.size) : (T.extract q r).toList = T.getD q 0 :: (T.extract (q + 1) r).toList := by
  rw [Array.toList_extract, Array.toList_extract, List.extract_eq_take_drop, List.extract_eq_take_drop, drop_cons (by omega), show r - q = (r - (q + 1)) + 1 by omega, List.take_succ_cons]
theorem extract_self {T : Array Nat} {q : Nat} : (T.extract q q).toList = [] := by simp

theorem find1_none {T : Array Nat} : ∀ (d q : Nat), find1 T d q = none → ∀ i, q ≤ i → i < q + d → hit1 T i = false
  | 0, q, _, i, h1, h2 => by omega
  | d + 1, q, h, i, h1, h2 => by
    unfold find1 at h
    by_cases hh : hit1 T q = true
    · rw [if_pos hh] at h; cases h
    · rw [if_neg hh] at h
      by_cases hi : i = q
      · subst hi; simpa using hh
      · exact find1_none d (q + 1) h i (by omega) (by omega)
theorem find1_some {T : Array Nat} : ∀ (d q r e : Nat), find1 T d q = some (r, e) → q ≤ r ∧ r < q + d ∧ e = r + 1 ∧ hit1 T r = true ∧ ∀ i, q ≤ i → i < r → hit1 T i = false
  | 0, q, r, e, h => by simp [find1] at h
  | d + 1, q, r, e, h => by
    unfold find1 at h
    by_cases hh : hit1 T q = true
    · rw [if_pos hh] at h
      obtain ⟨rfl, rfl⟩ := by simpa only [Option.some.injEq, Prod.mk.injEq] using h
      exact ⟨by omega, by omega, rfl, hh, fun i h1 h2 => by omega⟩
    · rw [if_neg hh] at h
      obtain ⟨h1, h2, h3, h4, h5⟩ := find1_some d (q + 1) r e h
      refine ⟨by omega, by omega, h3, h4, fun i hi1 hi2 => ?_⟩
      by_cases hi : i = q
      · subst hi; simpa using hh
      · exact h5 i (by omega) hi2

theorem dotL_run {T : Array Nat} : ∀ (k q : Nat), q + k ≤ T.size → (∀ i, q ≤ i → i < q + k → hit1 T i = false) →
    dotL (bol T q) (T.toList.drop q) = (T.extract q (q + k)).toList ++ dotL (bol T (q + k)) (T.toList.drop (q + k))
  | 0, q, h, _ => by simp
  | k + 1, q, h, hn => by
    have ih := dotL_run k (q + 1) (by omega) (fun i h1 h2 => hn i (by omega) (by omega))
    rw [show q + 1 + k = q + (k + 1) by omega] at ih
    rw [drop_cons (by omega), extract_cons (by omega) h, dotL]
    have h0 : (bol T q && T.getD q 0 == 46) = false := hn q (by omega) (by omega)
    rw [h0]
    have hb : (T.getD q 0 == 10) = bol T (q + 1) := by simp [bol]
    rw [hb, ih]
    simp

theorem pieces1 {T : Array Nat} : ∀ (fuel d q : Nat), d < fuel → q + d = T.size → (pieces (find1 T) T ⟨#[46, 46]⟩ fuel d q).flatMap (·.cps.toList) = dotL (bol T q) (T.toList.drop q)
  | 0, d, q, h, _ => absurd h (Nat.not_lt_zero _)
  | fuel + 1, d, q, h, hq => by
    unfold pieces
    cases hf : find1 T d q with
    | none =>
      have hn := find1_none d q hf
      rw [dotL_run d q (by omega) hn, show q + d = T.size from hq]
      have e0 : T.toList.drop T.size = [] := by simp
      rw [e0]
      by_cases hd : 0 < d
      · simp [hd, dotL]
      · have : d = 0 := by omega
        subst this
        simp [dotL, ← hq]
    | some p =>
      obtain ⟨r, e⟩ := p
      obtain ⟨h1, h2, h3, h4, h5⟩ := find1_some d q r e hf
      subst h3
      obtain ⟨k, rfl⟩ : ∃ k, r = q + k := ⟨r - q, by omega⟩
      have ih := pieces1 (T := T) fuel (q + d - (q + k + 1)) (q + k + 1) (by omega) (by omega)
      rw [dotL_run k q (by omega) h5, drop_cons (by omega), dotL]
      unfold hit1 at h4
      rw [h4]
      have h46 : T.getD (q + k) 0 = 46 := by
        simp only [Bool.and_eq_true] at h4
        simpa using h4.2
      have hb : (T.getD (q + k) 0 == 10) = bol T (q + k + 1) := by simp [bol]
      rw [hb, ← ih]
      simp only [List.flatMap_append, List.flatMap_cons]
      by_cases hk : q < q + k
      · simp [hk]
      · have : k = 0 := by omega
        subst this
        simp

theorem find2_none {T : Array Nat} : ∀ (d q : Nat), find2 T d q = none → ∀ i, q ≤ i → i < q + d → nl (T.getD i 0) = false
  | 0, q, _, i, h1, h2 => by omega
  | d + 1, q, h, i, h1, h2 => by
    unfold find2 at h
    by_cases hh : nl (T.getD q 0) = true
    · rw [if_pos hh] at h; cases h
    · rw [if_neg hh] at h
      by_cases hi : i = q
      · subst hi; simpa using hh
      · exact find2_none d (q + 1) h i (by omega) (by omega)
theorem find2_before {T : Array Nat} : ∀ (d q r e : Nat), find2 T d q = some (r, e) → ∀ i, q ≤ i → i < r → nl (T.getD i 0) = false
  | 0, q, r, e, h => by simp [find2] at h
  | d + 1, q, r, e, h => by
    unfold find2 at h
    by_cases hh : nl (T.getD q 0) = true
    · rw [if_pos hh] at h
      obtain ⟨rfl, rfl⟩ := by simpa only [Option.some.injEq, Prod.mk.injEq] using h
      exact fun i h1 h2 => by omega
    · rw [if_neg hh] at h
      intro i hi1 hi2
      by_cases hi : i = q
      · subst hi; simpa using hh
      · exact find2_before d (q + 1) r e h i (by omega) hi2

theorem crlfL_plain {c : Nat} {r : List Nat} (h : nl c = false) : crlfL (c :: r) = c :: crlfL r := by
  have h13 : c ≠ 13 := by rintro rfl; simp [nl] at h
  rw [crlfL]
  · simp [h]
  · intro r' e _; exact absurd e h13
theorem crlfL_nl {c : Nat} {r : List Nat} (h : nl c = true) (h2 : c = 13 → ∀ r', r ≠ 10 :: r') : crlfL (c :: r) = 13 :: 10 :: crlfL r := by
  rw [crlfL]
  · simp [h]
  · intro r' e e'; exact absurd e' (h2 e r')
theorem crlfL_crlf {r : List Nat} : crlfL (13 :: 10 :: r) = 13 :: 10 :: crlfL r := by rw [crlfL]

theorem crlfL_run {T : Array Nat} : ∀ (k q : Nat), q + k ≤ T.size → (∀ i, q ≤ i → i < q + k → nl (T.getD i 0) = false) →
    crlfL (T.toList.drop q) = (T.extract q (q + k)).toList ++ crlfL (T.toList.drop (q + k))
  | 0, q, h, _ => by simp
  | k + 1, q, h, hn => by
    have ih := crlfL_run k (q + 1) (by omega) (fun i h1 h2 => hn i (by omega) (by omega))
    rw [show q + 1 + k = q + (k + 1) by omega] at ih
    rw [drop_cons (by omega), extract_cons (by omega) h, crlfL_plain (hn q (by omega) (by omega)), ih]
    simp

theorem pieces2 {T : Array Nat} : ∀ (fuel d q : Nat), d < fuel → q + d = T.size → (pieces (find2 T) T ⟨#[13, 10]⟩ fuel d q).flatMap (·.cps.toList) = crlfL (T.toList.drop q)
  | 0, d, q, h, _ => absurd h (Nat.not_lt_zero _)
  | fuel + 1, d, q, h, hq => by
    unfold pieces
    cases hf : find2 T d q with
    | none =>
      have hn := find2_none d q hf
      rw [crlfL_run d q (by omega) hn, show q + d = T.size from hq]
      have e0 : T.toList.drop T.size = [] := by simp
      rw [e0]
      by_cases hd : 0 < d
      · simp [hd, crlfL]
      · have : d = 0 := by omega
        subst this
        simp [crlfL, ← hq]
    | some p =>
      obtain ⟨r, e⟩ := p
      obtain ⟨h1, h2, h3, h4⟩ := find2_spec d q hf
      have h5 := find2_before d q r e hf
      obtain ⟨k, rfl⟩ : ∃ k, r = q + k := ⟨r - q, by omega⟩
      rw [hq] at h4
      have pre : ∀ l : List Nat, List.flatMap (fun x => x.cps.toList) (if q < q + k then [(⟨T.extract q (q + k)⟩ : Str)] else []) ++ l = (T.extract q (q + k)).toList ++ l := by
        intro l
        by_cases hk : q < q + k
        · simp [hk]
        · have : k = 0 := by omega
          subst this
          simp
      rw [crlfL_run k q (by omega) h5]
      simp only [List.flatMap_append, List.flatMap_cons]
      rw [pre]
      congr 1
      by_cases hc : (T.getD (q + k) 0 == 13 && q + k + 1 != T.size && T.getD (q + k + 1) 0 == 10) = true
      · rw [if_pos hc] at h4
        subst h4
        simp only [Bool.and_eq_true, beq_iff_eq, bne_iff_ne, ne_eq] at hc
        rw [pieces2 fuel (q + d - (q + k + 2)) (q + k + 2) (by omega) (by omega)]
        rw [drop_cons (T := T) (q := q + k) (by omega), drop_cons (T := T) (q := q + k + 1) (by omega), hc.1.1, hc.2, crlfL_crlf]
        simp
      · rw [if_neg hc] at h4
        subst h4
        rw [pieces2 fuel (q + d - (q + k + 1)) (q + k + 1) (by omega) (by omega)]
        rw [drop_cons (T := T) (q := q + k) (by omega), crlfL_nl h3]
        · simp
        · intro e13 r' er
          refine hc ?_
          have hlt : q + k + 1 < T.size := by
            rcases Nat.lt_or_ge (q + k + 1) T.size with x | x
            · exact x
            · rw [List.drop_of_length_le (by simpa using x)] at er
              cases er
          rw [drop_cons hlt] at er
          simp only [List.cons.injEq] at er
          simp only [Bool.and_eq_true, beq_iff_eq, bne_iff_ne, ne_eq]
          exact ⟨⟨e13, by omega⟩, er.1⟩

/-- what quotedata gives -/
def dotS (x : Str) : Str := ⟨(dotL true x.cps.toList).toArray⟩
def crlfS (x : Str) : Str := ⟨(crlfL x.cps.toList).toArray⟩
def quoteS (x : Str) : Str := dotS (crlfS x)

theorem dotL_length : ∀ (b : Bool) (l : List Nat), (dotL b l).length ≤ 2 * l.length
  | _, [] => by simp [dotL]
  | b, c :: r => by
    have := dotL_length (c == 10) r
    rw [dotL]
    split <;> simp <;> omega
theorem crlfL_length (l : List Nat) : (crlfL l).length ≤ 2 * l.length := by
  fun_induction crlfL l with
  | case1 => simp
  | case2 r ih => simp; omega
  | case3 c r h1 h2 ih => simp; omega
  | case4 c r h1 h2 ih => simp; omega

section
variable {prog : Program} {w : World} {A : Around} {E : Value → Shared → Prop}
theorem sub1 {x : Str} {t tr : Tok} {P : Addr} {s : Shared} {Q : Value → Shared → Prop} (hx : x.cps.size ≤ 1000000) (hp : IsPat s.heap P c1)
    (hQ : ∀ (h' : Heap) (tk : Nat) (t' : Tok), (∀ b o, s.heap.get? b = some o → h'.get? b = some o) → Q (.str (dotS x) t') { s with heap := h', toks := tk }) :
    wpAny (model prog w) A (call (.builtin "re.Pattern.sub") [.ref P, .str (Str.ofString "..") tr, .str x t]) Q E s := by
  have er : Str.ofString ".." = ⟨#[46, 46]⟩ := by decide +kernel
  rw [er]
  refine subCall (find := find1 x.cps) (code := c1) (N := 3 * x.cps.size + 6) (fun q d h => (search1 h).mono (by omega) (fun m h => h)) (by omega) (fun d q r e h => ?_) hx (by decide) (by decide +kernel) hp (fun h' tk t' hk => ?_)
  · obtain ⟨h1, h2, h3, _, _⟩ := find1_some d q r e h
    omega
  · have := hQ h' tk t' hk
    unfold dotS at this
    unfold glue
    rw [pieces1 _ _ _ (by omega) (by omega)]
    simpa [bol] using this
theorem sub2 {x : Str} {t tr : Tok} {P : Addr} {s : Shared} {Q : Value → Shared → Prop} (hx : x.cps.size ≤ 1000000) (hp : IsPat s.heap P c2)
    (hQ : ∀ (h' : Heap) (tk : Nat) (t' : Tok), (∀ b o, s.heap.get? b = some o → h'.get? b = some o) → Q (.str (crlfS x) t') { s with heap := h', toks := tk }) :
    wpAny (model prog w) A (call (.builtin "re.Pattern.sub") [.ref P, .str (Str.ofString "\x0d\n") tr, .str x t]) Q E s := by
  have er : Str.ofString "\x0d\n" = ⟨#[13, 10]⟩ := by decide +kernel
  rw [er]
  refine subCall (find := find2 x.cps) (code := c2) (N := 17) (fun q d h => search2 h) (by omega) (fun d q r e h => ?_) hx (by decide) (by decide +kernel) hp (fun h' tk t' hk => ?_)
  · obtain ⟨h1, h2, h3, h4⟩ := find2_spec d q h
    split at h4
    · rename_i hc
      simp only [Bool.and_eq_true, beq_iff_eq, bne_iff_ne, ne_eq] at hc
      omega
    · omega
  · have := hQ h' tk t' hk
    unfold crlfS at this
    unfold glue
    rw [pieces2 _ _ _ (by omega) (by omega)]
    simpa using this
end
end Rx
end Mine
end
section
open PySem PySem.W PyProof.Rows
set_option linter.unusedSimpArgs false
set_option linter.unusedVariables false
namespace Mine
namespace Pa
/-- what parse257 reads behind the opening mark -/
def unqL : List Nat → List Nat
  | [] => []
  | [c] => if c == 34 then [] else [c]
  | c :: d :: r => if c == 34 then (if d == 34 then 34 :: unqL r else []) else c :: unqL (d :: r)
theorem unqL_plain {c : Nat} (r : List Nat) (h : c ≠ 34) : unqL (c :: r) = c :: unqL r := by
  cases r with
  | nil => simp [unqL, h]
  | cons d r => rw [unqL]; simp [h]
theorem unqL_two (r : List Nat) : unqL (34 :: 34 :: r) = 34 :: unqL r := by rw [unqL]; simp
theorem unqL_last : unqL [34] = [] := by simp [unqL]
theorem unqL_stop {d : Nat} (r : List Nat) (h : d ≠ 34) : unqL (34 :: d :: r) = [] := by rw [unqL]; simp [h]

def okS (x : Str) : Bool := Txt.slice x (some 3) (some 5) != Str.ofString " \""
def parseS (x : Str) : Str := if okS x then Str.ofString "" else ⟨(unqL (x.cps.toList.drop 5)).toArray⟩

def PInv (x dir : Str) (i : Int) : Prop := 5 ≤ i ∧ dir.cps.toList ++ unqL (x.cps.toList.drop i.toNat) = unqL (x.cps.toList.drop 5)

theorem str_eq {a b : Str} (h : a.cps.toList = b.cps.toList) : a = b := by
  cases a; cases b; simp at h; simp [h]
theorem quote_is : Str.ofString "\"" = ⟨#[34]⟩ := by decide +kernel
theorem item_is {x : Str} {i : Int} (h0 : 0 ≤ i) (h1 : i < x.length) : Txt.item x i = ⟨#[x.cps.toList.getD i.toNat 0]⟩ := by
  rw [PySem.W.item_meets ⟨h0, h1⟩]
  simp [Array.getD_eq_getD_getElem?, List.getD_eq_getElem?_getD]
theorem drop_is {x : Str} {i : Int} (h0 : 0 ≤ i) (h1 : i < x.length) : x.cps.toList.drop i.toNat = x.cps.toList.getD i.toNat 0 :: x.cps.toList.drop (i + 1).toNat := by
  have hl : i.toNat < x.cps.toList.length := by
    have : x.length = x.cps.toList.length := by simp [Str.length]
    omega
  rw [List.drop_eq_getElem_cons hl, show (i + 1).toNat = i.toNat + 1 by omega]
  have hl' : i.toNat < x.cps.size := by simpa using hl
  simp [List.getD_eq_getElem?_getD, hl']
theorem is_quote {x : Str} {i : Int} (h0 : 0 ≤ i) (h1 : i < x.length) (h : (Txt.item x i == Str.ofString "\"") = true) : x.cps.toList.getD i.toNat 0 = 34 := by
  rw [item_is h0 h1, quote_is] at h
  simpa using h
theorem no_quote {x : Str} {i : Int} (h0 : 0 ≤ i) (h1 : i < x.length) (h : (Txt.item x i == Str.ofString "\"") = false) : x.cps.toList.getD i.toNat 0 ≠ 34 := by
  rw [item_is h0 h1, quote_is] at h
  simpa using h

theorem pinv_start (x : Str) : PInv x (Str.ofString "") 5 := by
  have e : Str.ofString "" = ⟨#[]⟩ := by decide +kernel
  rw [e]
  exact ⟨by omega, by simp⟩
theorem pinv_plain {x dir : Str} {i : Int} (h : PInv x dir i) (h1 : i < x.length) (h2 : (Txt.item x i == Str.ofString "\"") = false) : PInv x (dir ++ Txt.item x i) (i + 1) := by
  obtain ⟨h5, he⟩ := h
  have hq := no_quote (by omega) h1 h2
  refine ⟨by omega, ?_⟩
  rw [← he, drop_is (by omega) h1, unqL_plain _ hq, item_is (by omega) h1, Str.cps_append]
  simp
theorem pinv_two {x dir : Str} {i : Int} (h : PInv x dir i) (h1 : i < x.length) (h2 : (Txt.item x i == Str.ofString "\"") = true) (h3 : ¬ (x.length : Int) ≤ i + 1) (h4 : (Txt.item x (i + 1) != Str.ofString "\"") = false) :
    PInv x (dir ++ Txt.item x i) (i + 1 + 1) := by
  obtain ⟨h5, he⟩ := h
  have hq := is_quote (by omega) h1 h2
  have hq2 := is_quote (x := x) (i := i + 1) (by omega) (by omega) (by simpa using h4)
  refine ⟨by omega, ?_⟩
  rw [← he, drop_is (by omega) h1, drop_is (i := i + 1) (by omega) (by omega), item_is (by omega) h1, hq, hq2, unqL_two, Str.cps_append]
  simp
theorem pinv_last {x dir : Str} {i : Int} (h : PInv x dir i) (hk : okS x = false) (h1 : i < x.length) (h2 : (Txt.item x i == Str.ofString "\"") = true) (h3 : (x.length : Int) ≤ i + 1) : dir = parseS x := by
  obtain ⟨h5, he⟩ := h
  have hq := is_quote (by omega) h1 h2
  unfold parseS
  rw [hk]
  apply str_eq
  have hd : x.cps.toList.drop (i + 1).toNat = [] := by
    apply List.drop_of_length_le
    have : x.length = x.cps.toList.length := by simp [Str.length]
    omega
  rw [drop_is (by omega) h1, hq, hd, unqL_last] at he
  simpa using he
theorem pinv_stop {x dir : Str} {i : Int} (h : PInv x dir i) (hk : okS x = false) (h1 : i < x.length) (h2 : (Txt.item x i == Str.ofString "\"") = true) (h3 : ¬ (x.length : Int) ≤ i + 1) (h4 : (Txt.item x (i + 1) != Str.ofString "\"") = true) : dir = parseS x := by
  obtain ⟨h5, he⟩ := h
  have hq := is_quote (by omega) h1 h2
  have hq2 := no_quote (x := x) (i := i + 1) (by omega) (by omega) (by simpa using h4)
  unfold parseS
  rw [hk]
  apply str_eq
  rw [drop_is (by omega) h1, hq, drop_is (i := i + 1) (by omega) (by omega), unqL_stop _ hq2] at he
  simpa using he
theorem pinv_exit {x dir : Str} {i : Int} (h : PInv x dir i) (hk : okS x = false) (h1 : ¬ i < x.length) : dir = parseS x := by
  obtain ⟨h5, he⟩ := h
  unfold parseS
  rw [hk]
  apply str_eq
  have hd : x.cps.toList.drop i.toNat = [] := by
    apply List.drop_of_length_le
    have : x.length = x.cps.toList.length := by simp [Str.length]
    omega
  rw [hd] at he
  simpa [unqL] using he
theorem parse_none {x : Str} (hk : okS x = true) : Str.ofString "" = parseS x := by unfold parseS; rw [hk]; rfl
theorem parse_len (x : Str) : (parseS x).length ≤ x.length := by
  unfold parseS
  have key : ∀ l : List Nat, (unqL l).length ≤ l.length := by
    intro l
    fun_induction unqL l <;> simp_all <;> omega
  split
  · rw [show Str.ofString "" = ⟨#[]⟩ by decide +kernel]; exact Nat.zero_le _
  · show (unqL (x.cps.toList.drop 5)).toArray.size ≤ x.cps.size
    have := key (x.cps.toList.drop 5)
    simp at this ⊢
    omega
end Pa
end Mine
end
section
open PySem PySem.W PyProof.Rows
set_option linter.unusedSimpArgs false
set_option linter.unusedVariables false
namespace Mine
namespace St
/-- a sign for a text, on lists -/
def putL (c : Nat) (z : List Nat) (l : List Nat) : List Nat := l.flatMap fun d => if d == c then z else [d]
theorem putL_nil (c : Nat) (z : List Nat) : putL c z [] = [] := rfl
theorem putL_cons (c : Nat) (z : List Nat) (d : Nat) (l : List Nat) : putL c z (d :: l) = (if d == c then z else [d]) ++ putL c z l := by simp [putL]
theorem putL_append (c : Nat) (z a b : List Nat) : putL c z (a ++ b) = putL c z a ++ putL c z b := by simp [putL]
theorem putL_free (c : Nat) (z : List Nat) : ∀ l : List Nat, c ∉ l → putL c z l = l
  | [], _ => rfl
  | d :: l, h => by
    rw [putL_cons, putL_free c z l (fun x => h (.tail _ x)), show (d == c) = false by simp; rintro rfl; exact h (.head _)]
    simp
theorem putL_join (c : Nat) (z : Str) : ∀ parts : List Str, (∀ p ∈ parts, c ∉ p.cps.toList) → putL c z.cps.toList (Str.join ⟨#[c]⟩ parts).cps.toList = (Str.join z parts).cps.toList
  | [], _ => rfl
  | [p], h => putL_free c _ _ (h p (.head _))
  | p :: q :: r, h => by
    have e1 : Str.join ⟨#[c]⟩ (p :: q :: r) = p ++ ⟨#[c]⟩ ++ Str.join ⟨#[c]⟩ (q :: r) := rfl
    have e2 : Str.join z (p :: q :: r) = p ++ z ++ Str.join z (q :: r) := rfl
    rw [e1, e2]
    simp only [Str.cps_append, Array.toList_append, putL_append]
    rw [putL_join c z (q :: r) (fun p' hp => h p' (.tail _ hp)), putL_free c _ _ (h p (.head _))]
    simp [putL]
theorem replace_put (x z : Str) (c : Nat) : (Txt.replace x ⟨#[c]⟩ z).cps.toList = putL c z.cps.toList x.cps.toList := by
  rw [StrLaws.replace_one, ← putL_join c z _ (StrLaws.split_free x c), StrLaws.join_split]
theorem str_eq {a b : Str} (h : a.cps.toList = b.cps.toList) : a = b := by
  cases a; cases b; simp at h; simp [h]
theorem mk_toList (l : List Nat) : (⟨l.toArray⟩ : Str).cps.toList = l := rfl
theorem app_toList (a b : Str) : (a ++ b).cps.toList = a.cps.toList ++ b.cps.toList := by rw [Str.cps_append]; simp
theorem len_eq (x : Str) : x.length = x.cps.toList.length := by simp [Str.length]
end St
end Mine
end
section
open PySem PySem.W PyProof.Rows
set_option linter.unusedSimpArgs false
set_option linter.unusedVariables false
namespace Mine
namespace Tk
open Sem (wp)
theorem runs_toks {M : Model} {Γ : Ctx} {p : Pos} {t : Sem Fin} {fs : List Frame} {s : Shared} {e : End} {s' : Shared} (h : Runs M Γ p t fs s e s') : s.toks ≤ s'.toks := by
  induction h <;> (try simp only [Shared.setGen] at *) <;> (try dsimp only at *) <;> omega
theorem wp_toks {α : Type} {M : Model} {Γ : Ctx} (t : Sem α) : ∀ {Q : α → Pos → Shared → Prop} {E : Value → Pos → Shared → Prop} {p : Pos} {s : Shared} (n : Nat), n ≤ s.toks → wp M Γ t Q E p s →
    wp M Γ t (fun a p' s' => Q a p' s' ∧ n ≤ s'.toks) (fun e p' s' => E e p' s' ∧ n ≤ s'.toks) p s := by
  induction t with
  | pure a => intro Q E p s n hn h; simp only [wp] at h ⊢; exact ⟨h, hn⟩
  | raise e => intro Q E p s n hn h; simp only [wp] at h ⊢; exact ⟨h, hn⟩
  | unsupported _ => intro Q E p s n hn h; simp only [wp] at h
  | finish _ => intro Q E p s n hn h; simp only [wp] at h
  | rule _ k ih => intro Q E p s n hn h; simp only [wp] at h ⊢; exact ih _ n hn h
  | «at» _ k ih => intro Q E p s n hn h; simp only [wp] at h ⊢; exact ih _ n hn h
  | load a _ k ih => intro Q E p s n hn h; simp only [wp] at h ⊢; obtain ⟨o, ho, h⟩ := h; exact ⟨o, ho, ih _ n hn h⟩
  | update a _ f k ih => intro Q E p s n hn h; simp only [wp] at h ⊢; exact ⟨h.1, ih _ n hn h.2⟩
  | loadIfAlive a k ih => intro Q E p s n hn h; simp only [wp] at h ⊢; exact ih _ n hn h
  | point _ k ih => intro Q E p s n hn h; simp only [wp] at h ⊢; exact ih _ n hn h
  | register _ _ => intro Q E p s n hn h; simp only [wp] at h
  | alloc o k ih => intro Q E p s n hn h; simp only [wp] at h ⊢; exact ih _ n hn h
  | fresh k ih => intro Q E p s n hn h; simp only [wp] at h ⊢; exact ih _ n (Nat.le_succ_of_le hn) h
  | ask k ih => intro Q E p s n hn h; simp only [wp] at h ⊢; exact ih _ n hn h
  | choose src m k ih => intro Q E p s n hn h; simp only [wp] at h ⊢; exact ⟨h.1, ih _ n hn h.2⟩
  | os q _ k ih => intro Q E p s n hn h; simp only [wp] at h ⊢; exact ih _ n hn h
  | call c hd _ _ k ih =>
    intro Q E p s n hn h
    simp only [wp] at h ⊢
    obtain ⟨r, s', hr, h⟩ := h
    exact ⟨r, s', hr, ih _ n (Nat.le_trans hn (runs_toks hr)) h⟩
  | handled own k ih => intro Q E p s n hn h; simp only [wp] at h ⊢; exact ih _ n hn h
  | genState g k ih => intro Q E p s n hn h; simp only [wp] at h ⊢; obtain ⟨st, h1, h⟩ := h; exact ⟨st, h1, ih _ n hn h⟩
  | newGen c k ih => intro Q E p s n hn h; simp only [wp] at h ⊢; exact ih _ n hn h
  | resume g r _ k ih =>
    intro Q E p s n hn h
    simp only [wp] at h ⊢
    obtain ⟨res, s', hw, h⟩ := h
    have : s.toks ≤ s'.toks := by
      unfold Wakes at hw
      split at hw
      · exact hw.elim
      · split at hw
        · obtain ⟨e₁, s₁, h1, _, _, rfl⟩ := hw
          have := runs_toks h1
          simpa [Shared.setGen] using this
        · obtain ⟨_, rfl⟩ := hw; exact Nat.le_refl _
        · obtain ⟨_, rfl⟩ := hw; exact Nat.le_refl _
      · obtain ⟨e₁, s₁, h1, _, _, rfl⟩ := hw
        have := runs_toks h1
        simpa [Shared.setGen] using this
      · obtain ⟨_, rfl⟩ := hw; exact Nat.le_refl _
      · obtain ⟨_, rfl⟩ := hw; exact Nat.le_refl _
    exact ⟨res, s', hw, ih _ n (Nat.le_trans hn this) h⟩
  | yield _ _ _ _ => intro Q E p s n hn h; simp only [wp] at h
  | stack k ih => intro Q E p s n hn h; simp only [wp] at h ⊢; exact ih _ n hn h
  | fork _ _ => intro Q E p s n hn h; simp only [wp] at h
  | thread k ih => intro Q E p s n hn h; simp only [wp] at h ⊢; exact ih _ n hn h
  | await _ _ _ _ _ => intro Q E p s n hn h; simp only [wp] at h
/-- tokens only grow: what comes behind a step may lean on it -/
theorem grown {α : Type} {M : Model} {A : Around} {t : Sem α} {Q : α → Shared → Prop} {E : Value → Shared → Prop} {s : Shared} (h : wpAny M A t (fun a s' => s.toks ≤ s'.toks → Q a s') E s) : wpAny M A t Q E s :=
  fun Γ p hΓ => Sem.wp_mono M Γ t (fun a p' s' x => x.1 x.2) (fun e p' s' x => x.1) p s (wp_toks t s.toks (Nat.le_refl _) (h Γ p hΓ))
theorem pos_step {α : Type} {M : Model} {A : Around} {t : Sem α} {Q : α → Shared → Prop} {E : Value → Shared → Prop} {s : Shared} (h0 : 0 < s.toks) (h : wpAny M A t (fun a s' => 0 < s'.toks → Q a s') E s) : wpAny M A t Q E s :=
  grown (wpAny_mono h (fun a s' x hs => x (Nat.lt_of_lt_of_le h0 hs)) (fun _ _ x => x))
end Tk
end Mine
end
section
open PySem PySem.W PyProof.Rows
set_option linter.unusedSimpArgs false
set_option linter.unusedVariables false
namespace Mine
namespace L2
open Rx Pa St

def dots (n : Nat) : List Nat := List.replicate n 46
def textOf (e : List Nat) : List Nat → Nat → List Nat
  | [], last => dots last
  | r :: rs, last => dots r ++ e ++ textOf e rs last
def IsEnd (e : List Nat) : Prop := e = [10] ∨ e = [13, 10] ∨ e = [13]
def grow (r : Nat) : Nat := if r = 0 then 0 else r + 1
abbrev Rw := List Nat × Nat
def txt (e : List Nat) (R : Rw) : Str := ⟨(textOf e R.1 R.2).toArray⟩
def sentR (R : Rw) : Rw := (R.1.map grow, grow R.2)
def cutR (s : Nat) : List Nat → Nat → Rw
  | [], last => ([], last / s)
  | r :: rs, last => if r % s = 0 then ((r / s) :: (cutR s rs last).1, (cutR s rs last).2) else ([], r / s)
def readR (R : Rw) : Rw := cutR 2 R.1 R.2

/-! quotedata on such texts -/
theorem crlf_dots (n : Nat) (l : List Nat) : crlfL (dots n ++ l) = dots n ++ crlfL l := by
  induction n with
  | zero => simp [dots]
  | succ n ih =>
    show crlfL (46 :: (dots n ++ l)) = 46 :: (dots n ++ crlfL l)
    rw [crlfL_plain (by decide), ih]
theorem textOf_head {e : List Nat} (he : e = [13]) : ∀ (rows : List Nat) (last : Nat) (r' : List Nat), textOf e rows last ≠ 10 :: r' := by
  intro rows last r' h
  subst he
  cases rows with
  | nil =>
    simp only [textOf] at h
    cases last with
    | zero => simp [dots] at h
    | succ n => simp [dots, List.replicate_succ] at h
  | cons r rs =>
    simp only [textOf] at h
    cases r with
    | zero => simp [dots] at h
    | succ n => simp [dots, List.replicate_succ] at h
theorem crlf_text {e : List Nat} (he : IsEnd e) : ∀ (rows : List Nat) (last : Nat), crlfL (textOf e rows last) = textOf [13, 10] rows last
  | [], last => by
    have := crlf_dots last []
    simp only [List.append_nil, textOf] at this ⊢
    rw [this]
    simp [crlfL]
  | r :: rs, last => by
    have ih := crlf_text he rs last
    simp only [textOf, List.append_assoc]
    rw [crlf_dots]
    congr 1
    rcases he with rfl | rfl | rfl
    · show crlfL (10 :: textOf [10] rs last) = _
      rw [crlfL_nl (by decide) (by intro h; cases h), ih]; rfl
    · show crlfL (13 :: 10 :: textOf [13, 10] rs last) = _
      rw [crlfL_crlf, ih]; rfl
    · show crlfL (13 :: textOf [13] rs last) = _
      rw [crlfL_nl (by decide) (fun _ => textOf_head rfl rs last), ih]; rfl
theorem dot_false_dots (n : Nat) (l : List Nat) (c : Nat) (hc : c ≠ 10) : dotL (c == 10) (dots n ++ l) = dots n ++ dotL false l := by
  have hc' : (c == 10) = false := by simpa using hc
  rw [hc']
  induction n with
  | zero => simp [dots]
  | succ n ih =>
    show dotL false (46 :: (dots n ++ l)) = 46 :: (dots n ++ dotL false l)
    rw [dotL]
    simpa using ih
theorem dot_dots (n : Nat) (l : List Nat) : dotL true (dots n ++ l) = dots (grow n) ++ dotL (n == 0) l := by
  cases n with
  | zero => simp [dots, grow]
  | succ n =>
    show dotL true (46 :: (dots n ++ l)) = _
    rw [dotL, dot_false_dots n l 46 (by decide)]
    simp [dots, grow, List.replicate_succ]
theorem dot_text : ∀ (rows : List Nat) (last : Nat), dotL true (textOf [13, 10] rows last) = textOf [13, 10] (rows.map grow) (grow last)
  | [], last => by
    have := dot_dots last []
    simp only [List.append_nil, textOf, List.map_nil] at this ⊢
    rw [this]
    simp [dotL]
  | r :: rs, last => by
    have ih := dot_text rs last
    simp only [textOf, List.append_assoc, List.map_cons]
    rw [dot_dots]
    congr 1
    show dotL _ (13 :: 10 :: textOf [13, 10] rs last) = 13 :: 10 :: _
    rw [dotL, dotL, ← ih]
    simp
theorem quote_txt {e : List Nat} (he : IsEnd e) (R : Rw) : quoteS (txt e R) = txt [13, 10] (sentR R) := by
  apply St.str_eq
  show dotL true (crlfL (textOf e R.1 R.2)) = textOf [13, 10] (R.1.map grow) (grow R.2)
  rw [crlf_text he, dot_text]

/-! one reading -/
def readS (x : Str) : Str := Txt.replace (parseS (Str.ofString "257 \"" ++ Txt.replace x (Str.ofString ".") (Str.ofString "\""))) (Str.ofString "\"") (Str.ofString ".")
theorem dot_is : Str.ofString "." = ⟨#[46]⟩ := by decide +kernel
theorem head_is : Str.ofString "257 \"" = ⟨#[50, 53, 55, 32, 34]⟩ := by decide +kernel

theorem slice_nat (x : Str) {a b : Nat} (hab : a ≤ b) (hb : b ≤ x.length) : Txt.slice x (some (a : Int)) (some (b : Int)) = ⟨((x.cps.toList.drop a).take (b - a)).toArray⟩ := by
  have := StrLaws.sliceText_plain (x := x) (i := (a : Int)) (j := (b : Int)) ⟨by omega, by omega, by rw [← len_eq]; omega⟩
  exact this.trans (by simp)
theorem head_ok (y : Str) : okS (Str.ofString "257 \"" ++ y) = false := by
  unfold okS
  have e : Txt.slice (Str.ofString "257 \"" ++ y) (some 3) (some 5) = Str.ofString " \"" := by
    have h5 : 5 ≤ (Str.ofString "257 \"" ++ y).length := by
      rw [Str.length_append, head_is]
      show 5 ≤ 5 + y.length
      omega
    have := slice_nat (Str.ofString "257 \"" ++ y) (a := 3) (b := 5) (by omega) h5
    refine this.trans ?_
    apply St.str_eq
    rw [app_toList, head_is, show Str.ofString " \"" = ⟨#[32, 34]⟩ by decide +kernel]
    simp
  rw [e]
  simp
theorem head_257 (y : Str) : (Txt.slice (Str.ofString "257 \"" ++ y) none (some 3) != Str.ofString "257") = false := by
  have e : Txt.slice (Str.ofString "257 \"" ++ y) none (some 3) = Str.ofString "257" := by
    have h5 : 3 ≤ (Str.ofString "257 \"" ++ y).length := by
      rw [Str.length_append, head_is]
      show 3 ≤ 5 + y.length
      omega
    have := StrLaws.sliceText_to (x := Str.ofString "257 \"" ++ y) (j := 3) ⟨by omega, by rw [← len_eq]; omega⟩
    refine (show Txt.slice _ _ _ = _ from this).trans ?_
    apply St.str_eq
    rw [app_toList, head_is, show Str.ofString "257" = ⟨#[50, 53, 55]⟩ by decide +kernel]
    simp
  rw [e]
  simp
theorem parse_head (y : Str) : (parseS (Str.ofString "257 \"" ++ y)).cps.toList = unqL y.cps.toList := by
  unfold parseS
  rw [head_ok]
  show unqL ((Str.ofString "257 \"" ++ y).cps.toList.drop 5) = _
  rw [app_toList, head_is]
  simp
def readL (l : List Nat) : List Nat := putL 34 [46] (unqL (putL 46 [34] l))
theorem readS_L (x : Str) : (readS x).cps.toList = readL x.cps.toList := by
  unfold readS readL
  rw [quote_is, dot_is, replace_put, parse_head, replace_put]

theorem unq_plain (l : List Nat) : ∀ e : List Nat, (∀ c ∈ e, c ≠ 34) → unqL (e ++ l) = e ++ unqL l
  | [], _ => rfl
  | c :: e, h => by
    show unqL (c :: (e ++ l)) = c :: (e ++ unqL l)
    rw [unqL_plain _ (h c (.head _)), unq_plain l e (fun d hd => h d (.tail _ hd))]
theorem unq_even (k : Nat) (l : List Nat) : unqL (List.replicate (2 * k) 34 ++ l) = List.replicate k 34 ++ unqL l := by
  induction k with
  | zero => simp
  | succ k ih =>
    rw [show 2 * (k + 1) = 2 * k + 1 + 1 by omega]
    show unqL (34 :: 34 :: (List.replicate (2 * k) 34 ++ l)) = 34 :: (List.replicate k 34 ++ unqL l)
    rw [unqL_two, ih]
theorem unq_odd (k : Nat) {d : Nat} (l : List Nat) (hd : d ≠ 34) : unqL (List.replicate (2 * k + 1) 34 ++ d :: l) = List.replicate k 34 := by
  rw [show List.replicate (2 * k + 1) 34 = List.replicate (2 * k) 34 ++ [34] by rw [List.replicate_succ']]
  rw [List.append_assoc, unq_even]
  show List.replicate k 34 ++ unqL (34 :: d :: l) = _
  rw [unqL_stop _ hd]; simp
theorem unq_all (n : Nat) : unqL (List.replicate n 34) = List.replicate (n / 2) 34 := by
  rcases Nat.mod_two_eq_zero_or_one n with h | h
  · have := unq_even (n / 2) []
    rw [show 2 * (n / 2) = n by omega] at this
    simpa [unqL] using this
  · have : List.replicate n 34 = List.replicate (2 * (n / 2)) 34 ++ [34] := by
      rw [← List.replicate_succ']; congr 1; omega
    rw [this, unq_even, unqL_last]; simp

theorem put_dots (n : Nat) : putL 46 [34] (dots n) = List.replicate n 34 := by
  induction n with
  | zero => rfl
  | succ n ih => show putL 46 [34] (46 :: dots n) = _; rw [putL_cons, ih]; rfl
theorem put_marks (n : Nat) : putL 34 [46] (List.replicate n 34) = dots n := by
  induction n with
  | zero => rfl
  | succ n ih => rw [List.replicate_succ, putL_cons, ih]; rfl
theorem end_free {e : List Nat} (he : IsEnd e) : 46 ∉ e ∧ 34 ∉ e ∧ ∃ d r, e = d :: r ∧ d ≠ 34 := by
  rcases he with rfl | rfl | rfl <;> refine ⟨by decide, by decide, _, _, rfl, by decide⟩
theorem put_text {e : List Nat} (he : IsEnd e) : ∀ (rows : List Nat) (last : Nat), putL 34 [46] (unqL (putL 46 [34] (textOf e rows last))) = textOf e (cutR 2 rows last).1 (cutR 2 rows last).2
  | [], last => by
    simp only [textOf, cutR]
    rw [put_dots, unq_all, put_marks]
  | r :: rs, last => by
    obtain ⟨h46, h34, d, r', ee, hd⟩ := end_free he
    have ih := put_text he rs last
    simp only [textOf, cutR, List.append_assoc]
    rw [putL_append, put_dots, putL_append, putL_free 46 _ e h46]
    by_cases h : r % 2 = 0
    · rw [if_pos h]
      simp only [textOf, List.append_assoc]
      have e2 := unq_even (r / 2) (e ++ putL 46 [34] (textOf e rs last))
      rw [show 2 * (r / 2) = r by omega] at e2
      rw [e2, unq_plain _ e (fun c hc => by rintro rfl; exact h34 hc), putL_append, put_marks, putL_append, putL_free 34 _ e h34, ih]
    · rw [if_neg h]
      simp only [textOf]
      have e2 := unq_odd (r / 2) (r' ++ putL 46 [34] (textOf e rs last)) hd
      rw [show 2 * (r / 2) + 1 = r by omega] at e2
      rw [ee]
      show putL 34 [46] (unqL (List.replicate r 34 ++ d :: (r' ++ putL 46 [34] (textOf (d :: r') rs last)))) = _
      rw [← ee, e2, put_marks]
theorem read_txt {e : List Nat} (he : IsEnd e) (R : Rw) : readS (txt e R) = txt e (readR R) := by
  apply St.str_eq
  rw [readS_L]
  exact put_text he R.1 R.2

/-! many -/
def iter {α : Type} (f : α → α) : Nat → α → α
  | 0, x => x
  | n + 1, x => f (iter f n x)
theorem iter_in {α : Type} (f : α → α) : ∀ (n : Nat) (x : α), iter f n (f x) = f (iter f n x)
  | 0, _ => rfl
  | n + 1, x => by show f (iter f n (f x)) = f (f (iter f n x)); rw [iter_in f n x]
theorem iter_add {α : Type} (f : α → α) (a b : Nat) (x : α) : iter f (a + b) x = iter f a (iter f b x) := by
  induction a with
  | zero => simp [iter]
  | succ a ih => rw [show a + 1 + b = (a + b) + 1 by omega]; show f _ = f _; rw [ih]
theorem end_crlf : IsEnd [13, 10] := .inr (.inl rfl)
theorem sent_txt {e : List Nat} (he : IsEnd e) (n : Nat) (R : Rw) : iter quoteS (n + 1) (txt e R) = txt [13, 10] (iter sentR (n + 1) R) := by
  induction n with
  | zero => exact quote_txt he R
  | succ n ih => show quoteS (iter quoteS (n + 1) (txt e R)) = txt [13, 10] (sentR (iter sentR (n + 1) R)); rw [ih, quote_txt end_crlf]
theorem reads_txt {e : List Nat} (he : IsEnd e) (n : Nat) (R : Rw) : iter readS n (txt e R) = txt e (iter readR n R) := by
  induction n with
  | zero => rfl
  | succ n ih => show readS (iter readS n (txt e R)) = txt e (readR (iter readR n R)); rw [ih, read_txt he]

def growBy (m r : Nat) : Nat := if r = 0 then 0 else r + m
theorem sent_iter : ∀ (m : Nat) (R : Rw), iter sentR m R = (R.1.map (growBy m), growBy m R.2)
  | 0, R => by
    have : growBy 0 = id := by funext r; simp only [growBy, id]; split <;> omega
    rw [this]; simp [iter]
  | m + 1, R => by
    show sentR (iter sentR m R) = _
    rw [sent_iter m R]
    have : ∀ r, grow (growBy m r) = growBy (m + 1) r := by
      intro r
      unfold grow growBy
      by_cases h : r = 0
      · simp [h]
      · rw [if_neg h, if_neg h, if_neg (by omega)]; omega
    unfold sentR
    simp only [List.map_map, this]
    congr 1
    apply List.map_congr_left
    intro r _
    exact this r

theorem cut_cut (s : Nat) (hs : 0 < s) : ∀ (rows : List Nat) (last : Nat), readR (cutR s rows last) = cutR (2 * s) rows last
  | [], last => by
    simp only [cutR, readR]
    rw [Nat.div_div_eq_div_mul, Nat.mul_comm]
  | r :: rs, last => by
    have ih := cut_cut s hs rs last
    unfold readR at ih
    have hdd : r / s / 2 = r / (2 * s) := by rw [Nat.div_div_eq_div_mul, Nat.mul_comm]
    have hmod : r % (2 * s) = r % s + s * (r / s % 2) := by rw [Nat.mul_comm 2 s, Nat.mod_mul]
    rw [cutR, cutR]
    by_cases h : r % s = 0
    · rw [if_pos h]
      unfold readR
      show cutR 2 (r / s :: (cutR s rs last).1) (cutR s rs last).2 = _
      rw [cutR]
      by_cases h2 : r / s % 2 = 0
      · rw [if_pos h2, if_pos (by rw [hmod, h, h2]; simp), ih, hdd]
      · have h21 : r / s % 2 = 1 := by omega
        rw [if_neg h2, if_neg (by rw [hmod, h, h21]; omega), hdd]
    · rw [if_neg h, if_neg (by rw [hmod]; omega)]
      unfold readR
      show cutR 2 [] (r / s) = _
      rw [cutR, hdd]
theorem reads_cut : ∀ (k : Nat) (R : Rw), iter readR k R = cutR (2 ^ k) R.1 R.2
  | 0, R => by
    have one : ∀ (rows : List Nat) (last : Nat), cutR 1 rows last = (rows, last) := by
      intro rows last
      induction rows with
      | nil => simp [cutR]
      | cons r rs ih => rw [cutR, ih]; simp [Nat.mod_one]
    show R = cutR 1 R.1 R.2
    rw [one]
  | k + 1, R => by
    show readR (iter readR k R) = _
    rw [reads_cut k R, cut_cut _ (Nat.two_pow_pos k), Nat.pow_succ, Nat.mul_comm]

def NoOne (R : Rw) : Prop := (∀ r ∈ R.1, r ≠ 1) ∧ R.2 ≠ 1
theorem cut_commute (a : Nat) : ∀ (rows : List Nat) (last : Nat), (∀ r ∈ rows, r ≠ 1) → last ≠ 1 →
    cutR 2 (rows.map (growBy (2 * a))) (growBy (2 * a) last) = ((cutR 2 rows last).1.map (growBy a), growBy a (cutR 2 rows last).2)
  | [], last, _, h => by
    simp only [cutR, List.map_nil]
    congr 1
    unfold growBy
    by_cases h0 : last = 0
    · simp [h0]
    · rw [if_neg h0, if_neg (by omega)]; omega
  | r :: rs, last, hr, h => by
    have ih := cut_commute a rs last (fun x hx => hr x (.tail _ hx)) h
    have h1 := hr r (.head _)
    rw [List.map_cons, cutR, cutR, ih]
    have hm : growBy (2 * a) r % 2 = r % 2 := by unfold growBy; split <;> omega
    have hd : growBy (2 * a) r / 2 = growBy a (r / 2) := by
      unfold growBy
      by_cases h0 : r = 0
      · simp [h0]
      · rw [if_neg h0, if_neg (by omega)]; omega
    rw [hm, hd]
    by_cases h2 : r % 2 = 0
    · rw [if_pos h2, if_pos h2]; rfl
    · rw [if_neg h2, if_neg h2]; rfl
theorem read_sent (a : Nat) (R : Rw) (h : NoOne R) : readR (iter sentR (2 * a) R) = iter sentR a (readR R) := by
  rw [sent_iter, sent_iter]
  exact cut_commute a R.1 R.2 h.1 h.2
theorem noOne_sent {f : Nat} (hf : 1 ≤ f) (R : Rw) : NoOne (iter sentR f R) := by
  rw [sent_iter]
  have : ∀ r, growBy f r ≠ 1 := by intro r; unfold growBy; split <;> omega
  refine ⟨fun r hr => ?_, this _⟩
  obtain ⟨q, _, rfl⟩ := List.mem_map.mp hr
  exact this q

/-! sizes -/
def Fits (n : Nat) (R : Rw) : Prop := R.1.length ≤ 4 ∧ (∀ r ∈ R.1, r ≤ n) ∧ R.2 ≤ n
theorem fits_len {e : List Nat} (he : IsEnd e) {n : Nat} {R : Rw} (h : Fits n R) : (txt e R).length ≤ 5 * n + 8 := by
  have hel : e.length ≤ 2 := by rcases he with rfl | rfl | rfl <;> decide
  have key : ∀ (rows : List Nat) (last : Nat), (∀ r ∈ rows, r ≤ n) → (textOf e rows last).length ≤ rows.length * (n + 2) + last := by
    intro rows last hr
    induction rows with
    | nil => simp [textOf, dots]
    | cons r rs ih =>
      have := ih (fun x hx => hr x (.tail _ hx))
      have := hr r (.head _)
      simp only [textOf, List.length_append, dots, List.length_replicate, List.length_cons]
      rw [Nat.add_mul]
      omega
  have := key R.1 R.2 h.2.1
  have h4 := h.1
  have h3 := h.2.2
  show (textOf e R.1 R.2).toArray.size ≤ _
  rw [List.size_toArray]
  have : R.1.length * (n + 2) ≤ 4 * (n + 2) := Nat.mul_le_mul_right _ h4
  omega
theorem fits_sent {n : Nat} {R : Rw} (h : Fits n R) : Fits (n + 1) (sentR R) := by
  have g : ∀ r, r ≤ n → grow r ≤ n + 1 := by intro r hr; unfold grow; split <;> omega
  refine ⟨by simpa [sentR] using h.1, fun r hr => ?_, g _ h.2.2⟩
  obtain ⟨q, hq, rfl⟩ := List.mem_map.mp hr
  exact g q (h.2.1 q hq)
theorem fits_iter {n : Nat} {R : Rw} (h : Fits n R) : ∀ m, Fits (n + m) (iter sentR m R)
  | 0 => h
  | m + 1 => fits_sent (fits_iter h m)
theorem fits_read {n : Nat} {R : Rw} (h : Fits n R) : Fits n (readR R) := by
  have key : ∀ (rows : List Nat) (last : Nat), (∀ r ∈ rows, r ≤ n) → last ≤ n → (cutR 2 rows last).1.length ≤ rows.length ∧ (∀ r ∈ (cutR 2 rows last).1, r ≤ n) ∧ (cutR 2 rows last).2 ≤ n := by
    intro rows last hr hl
    induction rows with
    | nil => simp [cutR]; omega
    | cons r rs ih =>
      have h1 := ih (fun x hx => hr x (.tail _ hx))
      have h2 := hr r (.head _)
      rw [cutR]
      split
      · refine ⟨by simpa using h1.1, fun x hx => ?_, h1.2.2⟩
        rcases List.mem_cons.mp hx with rfl | hx
        · omega
        · exact h1.2.1 x hx
      · refine ⟨by simp, ?_, ?_⟩
        · intro x hx
          cases hx
        · show r / 2 ≤ n
          omega
  have := key R.1 R.2 h.2.1 h.2.2
  exact ⟨Nat.le_trans this.1 h.1, this.2.1, this.2.2⟩

/-- a text as the law has them, of at most n dots a row -/
def Shp (n : Nat) (x : Str) : Prop := ∃ e R, IsEnd e ∧ Fits n R ∧ x = txt e R
theorem shp_len {n : Nat} {x : Str} (h : Shp n x) : x.length ≤ 5 * n + 8 := by
  obtain ⟨e, R, he, hf, rfl⟩ := h
  exact fits_len he hf
theorem shp_quote {n : Nat} {x : Str} (h : Shp n x) : Shp (n + 1) (quoteS x) := by
  obtain ⟨e, R, he, hf, rfl⟩ := h
  exact ⟨_, _, end_crlf, fits_sent hf, quote_txt he R⟩
theorem shp_read {n : Nat} {x : Str} (h : Shp n x) : Shp n (readS x) := by
  obtain ⟨e, R, he, hf, rfl⟩ := h
  exact ⟨_, _, he, fits_read hf, read_txt he R⟩
theorem shp_mono {n m : Nat} {x : Str} (h : Shp n x) (hm : n ≤ m) : Shp m x := by
  obtain ⟨e, R, he, hf, rfl⟩ := h
  exact ⟨e, R, he, ⟨hf.1, fun r hr => Nat.le_trans (hf.2.1 r hr) hm, Nat.le_trans hf.2.2 hm⟩, rfl⟩
theorem shp_quotes {n : Nat} {x : Str} (h : Shp n x) : ∀ m, Shp (n + m) (iter quoteS m x)
  | 0 => h
  | m + 1 => shp_quote (shp_quotes h m)
theorem shp_reads {n : Nat} {x : Str} (h : Shp n x) : ∀ m, Shp n (iter readS m x)
  | 0 => h
  | m + 1 => shp_read (shp_reads h m)
end L2
end Mine
end
section
open PySem PySem.W PyProof.Rows
set_option linter.unusedSimpArgs false
set_option linter.unusedVariables false
namespace Mine
namespace L2
open Rx Pa St

/-! the figures -/
def figsOf (n : Int) : List Int := if n = 1 then [1] else if n = 2 then [2] else if n = 3 then [1, 1] else if n = 4 then [2, 1] else if n = 5 then [1, 2] else if n = 6 then [2, 2] else if n = 7 then [1, 1, 1] else if n = 8 then [2, 1, 1] else []
def FInv (N number : Int) (figs : List Int) : Prop := 0 ≤ number ∧ number ≤ 8 ∧ figs ++ figsOf number = figsOf N
theorem eight {n : Int} (h0 : 0 ≤ n) (h8 : n ≤ 8) : n = 0 ∨ n = 1 ∨ n = 2 ∨ n = 3 ∨ n = 4 ∨ n = 5 ∨ n = 6 ∨ n = 7 ∨ n = 8 := by omega
theorem figs_step {n : Int} (h0 : 0 < n) (h8 : n ≤ 8) : figsOf n = (2 - n.fmod 2) :: figsOf ((n - (2 - n.fmod 2)).fdiv 2) ∧ (2 - n.fmod 2 = 1 ∨ 2 - n.fmod 2 = 2) ∧ n = (2 - n.fmod 2) + 2 * ((n - (2 - n.fmod 2)).fdiv 2) ∧ 0 ≤ (n - (2 - n.fmod 2)).fdiv 2 ∧ (n - (2 - n.fmod 2)).fdiv 2 ≤ 8 := by
  rcases eight (Int.le_of_lt h0) h8 with rfl | rfl | rfl | rfl | rfl | rfl | rfl | rfl | rfl <;> first | omega | decide
theorem figs_len {n : Int} : (figsOf n).length ≤ 3 := by
  unfold figsOf
  repeat' split
  all_goals decide
theorem figs_pos {n : Int} (h0 : 0 < n) (h8 : n ≤ 8) : 0 < (figsOf n).length := by
  rw [(figs_step h0 h8).1]; simp
theorem figs_nil {n : Int} (h0 : 0 ≤ n) (h8 : n ≤ 8) (h : figsOf n = []) : n = 0 := by
  rcases Int.lt_or_eq_of_le h0 with x | x
  · have := figs_pos x h8
    rw [h] at this
    simp at this
  · exact x.symm
theorem f_start {N : Int} (h0 : 1 ≤ N) (h8 : N ≤ 8) : FInv N N [] ∧ 0 ≤ N ∧ N ≤ 8 ∧ ([] : List Int).length ≤ 3 := ⟨⟨by omega, h8, rfl⟩, by omega, h8, by simp⟩
theorem f_turn {N n : Int} {figs : List Int} (h : FInv N n figs) (h0 : 0 < n) :
    FInv N ((n - (2 - n.fmod 2)).fdiv 2) (figs ++ [2 - n.fmod 2]) ∧ 0 ≤ (n - (2 - n.fmod 2)).fdiv 2 ∧ (n - (2 - n.fmod 2)).fdiv 2 ≤ 8 ∧ (figs ++ [2 - n.fmod 2]).length ≤ 3 := by
  obtain ⟨h1, h2, h3⟩ := h
  obtain ⟨e, _, _, h4, h5⟩ := figs_step h0 h2
  have h6 : figs ++ [2 - n.fmod 2] ++ figsOf ((n - (2 - n.fmod 2)).fdiv 2) = figsOf N := by rw [← h3, e]; simp
  refine ⟨⟨h4, h5, h6⟩, h4, h5, ?_⟩
  have := figs_len (n := N)
  rw [← h6, List.length_append] at this
  omega
theorem f_less {n : Int} (h0 : 0 < n) (h8 : n ≤ 8) : ((n - (2 - n.fmod 2)).fdiv 2).toNat < n.toNat := by
  rcases eight (Int.le_of_lt h0) h8 with rfl | rfl | rfl | rfl | rfl | rfl | rfl | rfl | rfl <;> first | omega | decide
theorem f_end {N n : Int} {figs : List Int} (h : FInv N n figs) (h0 : ¬ 0 < n) : figs = figsOf N := by
  obtain ⟨h1, h2, h3⟩ := h
  have : n = 0 := by omega
  subst this
  simpa [figsOf] using h3

/-! the rows -/
def RowOk (r : Int) : Prop := r = 0 ∨ (2 ≤ r ∧ r ≤ 40)
theorem row_ok {N k : Int} {len : Nat} (h1 : 1 ≤ len) (h3 : len ≤ 3) :
    RowOk (if k.fmod 4 = 0 then 0 else if k.fmod 4 = 1 then 2 + (k.fdiv 4).fmod 15 else (-2 * N).fmod (2 ^ len) + 2 ^ len * (1 + (k.fdiv 4).fmod 2)) := by
  unfold RowOk
  split
  · exact .inl rfl
  · right
    have e15 : (k.fdiv 4).fmod 15 = (k.fdiv 4) % 15 := Int.fmod_eq_emod_of_nonneg _ (by omega)
    have e2 : (k.fdiv 4).fmod 2 = (k.fdiv 4) % 2 := Int.fmod_eq_emod_of_nonneg _ (by omega)
    split
    · rw [e15]; omega
    · have hl : len = 1 ∨ len = 2 ∨ len = 3 := by omega
      rw [e2]
      rcases hl with rfl | rfl | rfl
      · rw [Int.fmod_eq_emod_of_nonneg _ (by decide)]
        omega
      · rw [Int.fmod_eq_emod_of_nonneg _ (by decide)]
        omega
      · rw [Int.fmod_eq_emod_of_nonneg _ (by decide)]
        omega

/-! signs and ends -/
def dotsS (n : Int) : Str := ⟨(dots n.toNat).toArray⟩
theorem dotsS_nat (n : Nat) : (dotsS (n : Int)).cps.toList = dots n := by
  unfold dotsS
  rw [Int.toNat_natCast]
theorem dotsS_len (n : Int) : (dotsS n).length = n.toNat := by
  show (dots n.toNat).toArray.size = _
  simp [dots]
def endS (S : Int) : Str := [Str.ofString "\n", Str.ofString "\x0d\n", Str.ofString "\x0d"].getD S.toNat Str.empty
theorem endS_ok {S : Int} (h0 : 0 ≤ S) (h3 : S < 3) : ∃ e, IsEnd e ∧ endS S = ⟨e.toArray⟩ := by
  have : S = 0 ∨ S = 1 ∨ S = 2 := by omega
  rcases this with rfl | rfl | rfl
  · exact ⟨[10], .inl rfl, by decide +kernel⟩
  · exact ⟨[13, 10], .inr (.inl rfl), by decide +kernel⟩
  · exact ⟨[13], .inr (.inr rfl), by decide +kernel⟩
/-- an end of rows -/
def EndOk (en : Str) : Prop := ∃ e, IsEnd e ∧ en = ⟨e.toArray⟩
theorem endOk_len {en : Str} (h : EndOk en) : en.length ≤ 2 := by
  obtain ⟨e, he, ee⟩ := h
  rw [ee]
  rcases he with rfl | rfl | rfl <;> decide
theorem endS_len {S : Int} (h0 : 0 ≤ S) (h3 : S < 3) : (endS S).length ≤ 2 := by
  obtain ⟨e, he, ee⟩ := endS_ok h0 h3
  rw [ee]
  rcases he with rfl | rfl | rfl <;> decide

/-! the told text -/
def toldL (N s : Nat) (rs : List Int) : Rw := cutR s (rs.map fun r => growBy (2 * N) r.toNat) 0
def toldS (N s : Nat) (rs : List Int) : Str := txt [13, 10] (toldL N s rs)
/-- the rows taken so far leave no rest -/
def TInv (N s : Nat) (pre : List Int) (text : Str) : Prop :=
  (∀ r ∈ pre, growBy (2 * N) r.toNat % s = 0) ∧ text = ⟨(textOf [13, 10] (pre.map fun r => growBy (2 * N) r.toNat / s) 0).toArray⟩
theorem textOf_append (e : List Nat) : ∀ (a b : List Nat) (last : Nat), textOf e (a ++ b) last = textOf e a 0 ++ textOf e b last
  | [], b, last => by simp [textOf, dots]
  | r :: a, b, last => by
    show dots r ++ e ++ textOf e (a ++ b) last = dots r ++ e ++ textOf e a 0 ++ textOf e b last
    rw [textOf_append e a b last]
    simp
theorem cutR_append (s : Nat) : ∀ (a b : List Nat) (last : Nat), (∀ r ∈ a, r % s = 0) → cutR s (a ++ b) last = (a.map (· / s) ++ (cutR s b last).1, (cutR s b last).2)
  | [], b, last, _ => by simp
  | r :: a, b, last, h => by
    show cutR s (r :: (a ++ b)) last = _
    rw [cutR, if_pos (h r (.head _)), cutR_append s a b last (fun x hx => h x (.tail _ hx))]
    simp
theorem t_start {N s : Nat} : TInv N s [] (Str.ofString "") := ⟨(by intro r h; cases h), (by show Str.ofString "" = ⟨(textOf [13, 10] [] 0).toArray⟩; decide +kernel)⟩
theorem t_go {N s : Nat} {pre : List Int} {r : Int} {text : Str} (h : TInv N s pre text) (hr : growBy (2 * N) r.toNat % s = 0) :
    TInv N s (pre ++ [r]) (text ++ dotsS (growBy (2 * N) r.toNat / s : Nat) ++ Str.ofString "\x0d\n") := by
  obtain ⟨h1, h2⟩ := h
  refine ⟨fun x hx => ?_, ?_⟩
  · rcases List.mem_append.mp hx with hx | hx
    · exact h1 x hx
    · rw [List.mem_singleton.mp hx]; exact hr
  · apply St.str_eq
    rw [app_toList, app_toList, h2, List.map_append, mk_toList, mk_toList, textOf_append, show Str.ofString "\x0d\n" = ⟨#[13, 10]⟩ by decide +kernel, dotsS_nat]
    simp [textOf, dots]
theorem t_stop {N s : Nat} {pre post rs : List Int} {r : Int} {text : Str} (h : TInv N s pre text) (e : rs = pre ++ r :: post) (hr : growBy (2 * N) r.toNat % s ≠ 0) :
    text ++ dotsS (growBy (2 * N) r.toNat / s : Nat) = toldS N s rs := by
  obtain ⟨h1, h2⟩ := h
  apply St.str_eq
  rw [app_toList, h2, dotsS_nat]
  show _ = textOf [13, 10] (toldL N s rs).1 (toldL N s rs).2
  unfold toldL
  rw [e, List.map_append, List.map_cons, cutR_append s _ _ _ (by
    intro x hx
    obtain ⟨q, hq, rfl⟩ := List.mem_map.mp hx
    exact h1 q hq)]
  rw [cutR, if_neg hr]
  simp only [List.append_nil, List.map_map, mk_toList]
  have := textOf_append [13, 10] (pre.map fun r => growBy (2 * N) r.toNat / s) [] (growBy (2 * N) r.toNat / s)
  rw [List.append_nil] at this
  rw [show ((fun x => x / s) ∘ fun r => growBy (2 * N) r.toNat) = (fun r : Int => growBy (2 * N) r.toNat / s) from rfl, this]
  simp [textOf]
theorem t_end {N s : Nat} {rs : List Int} {text : Str} (h : TInv N s rs text) : text = toldS N s rs := by
  obtain ⟨h1, h2⟩ := h
  rw [h2]
  unfold toldS txt toldL
  have := cutR_append s (rs.map fun r => growBy (2 * N) r.toNat) [] 0 (by
    intro x hx
    obtain ⟨q, hq, rfl⟩ := List.mem_map.mp hx
    exact h1 q hq)
  rw [List.append_nil] at this
  rw [this]
  simp [cutR]
  rfl
theorem t_len {N s : Nat} {pre : List Int} {text : Str} (h : TInv N s pre text) (hs : 1 ≤ s) (hN : N ≤ 8) (hp : ∀ r ∈ pre, RowOk r) (hl : pre.length ≤ 4) : text.length ≤ 300 := by
  obtain ⟨h1, h2⟩ := h
  rw [h2]
  have := fits_len (e := [13, 10]) end_crlf (n := 56) (R := (pre.map fun r => growBy (2 * N) r.toNat / s, 0)) ⟨by simpa using hl, fun x hx => by
    obtain ⟨q, hq, rfl⟩ := List.mem_map.mp hx
    have hq' := hp q hq
    unfold RowOk at hq'
    refine Nat.le_trans (Nat.div_le_self _ _) ?_
    unfold growBy
    split <;> omega, by omega⟩
  exact Nat.le_trans this (by omega)

/-! the rounds -/
def MInv (figs : List Int) (told text : Str) (left : Int) (p : Nat) : Prop :=
  ∃ e R TR, IsEnd e ∧ (0 < p → e = [13, 10]) ∧ text = txt e R ∧ told = txt [13, 10] TR ∧ NoOne R ∧ Fits (100 + 2 * p) R ∧ 0 ≤ left ∧ left ≤ 8 ∧ figs.drop p = figsOf left ∧
    iter readR (figs.length - p) (iter sentR (2 * left.toNat) R) = TR
theorem m_shp {figs : List Int} {told text : Str} {left : Int} {p : Nat} (h : MInv figs told text left p) (hp : p ≤ 3) : Shp 4000 text := by
  obtain ⟨e, R, TR, he, _, ht, _, _, hf, _⟩ := h
  exact shp_mono ⟨e, R, he, hf, ht⟩ (by omega)
theorem m_left {figs : List Int} {told text : Str} {left : Int} {p : Nat} (h : MInv figs told text left p) : 0 ≤ left ∧ left ≤ 8 := by
  obtain ⟨_, _, _, _, _, _, _, _, _, h1, h2, _⟩ := h
  exact ⟨h1, h2⟩
theorem m_head {figs : List Int} {told text : Str} {left : Int} {p : Nat} (h : MInv figs told text left p) (hp : p < figs.length) : 0 < left ∧ figs.getD p 0 = 2 - left.fmod 2 := by
  obtain ⟨e, R, TR, he, h0, ht, htd, hno, hf, hl0, hl8, hd, hr⟩ := h
  have hpos : 0 < left := by
    rcases Int.lt_or_eq_of_le hl0 with x | x
    · exact x
    · rw [← x] at hd
      have : (figs.drop p).length = 0 := by rw [hd]; decide
      rw [List.length_drop] at this
      omega
  refine ⟨hpos, ?_⟩
  have e1 := (figs_step hpos hl8).1
  rw [e1, List.drop_eq_getElem_cons hp] at hd
  simp only [List.cons.injEq] at hd
  rw [List.getD_eq_getElem?_getD, List.getElem?_eq_getElem hp]
  exact hd.1
theorem m_told {figs : List Int} {told text : Str} {left : Int} {p : Nat} (h : MInv figs told text left p) (hp : p < figs.length) : iter readS (figs.length - p) (iter quoteS (2 * left).toNat text) = told := by
  have hpos := (m_head h hp).1
  obtain ⟨e, R, TR, he, h0, ht, htd, hno, hf, hl0, hl8, hd, hr⟩ := h
  rw [ht, htd, ← hr, show (2 * left).toNat = (2 * left.toNat - 1) + 1 by omega, sent_txt he, reads_txt end_crlf]
  rw [show 2 * left.toNat - 1 + 1 = 2 * left.toNat by omega]
theorem m_turn {figs : List Int} {told text : Str} {left : Int} {p : Nat} (h : MInv figs told text left p) (hp : p < figs.length) :
    MInv figs told (iter quoteS (figs.getD p 0).toNat (iter readS 1 text)) ((left - figs.getD p 0).fdiv 2) (p + 1) := by
  obtain ⟨hpos, hf0⟩ := m_head h hp
  obtain ⟨e, R, TR, he, h0, ht, htd, hno, hf, hl0, hl8, hd, hr⟩ := h
  obtain ⟨e1, e2, e3, e4, e5⟩ := figs_step hpos hl8
  rw [hf0]
  have hdrop : figs.drop (p + 1) = figsOf ((left - (2 - left.fmod 2)).fdiv 2) := by
    rw [e1, List.drop_eq_getElem_cons hp] at hd
    simp only [List.cons.injEq] at hd
    exact hd.2
  obtain ⟨f, hfe⟩ : ∃ f : Nat, (2 - left.fmod 2).toNat = f + 1 := ⟨(2 - left.fmod 2).toNat - 1, by omega⟩
  refine ⟨[13, 10], iter sentR (f + 1) (readR R), TR, end_crlf, fun _ => rfl, ?_, htd, noOne_sent (by omega) _, ?_, e4, e5, hdrop, ?_⟩
  · rw [hfe, ht]
    show iter quoteS (f + 1) (readS (txt e R)) = _
    rw [read_txt he, sent_txt he]
  · have := fits_iter (fits_read hf) (f + 1)
    have hf2 : f + 1 ≤ 2 := by omega
    exact ⟨this.1, fun r hr => Nat.le_trans (this.2.1 r hr) (by omega), Nat.le_trans this.2.2 (by omega)⟩
  · rw [← iter_add, ← hr]
    obtain ⟨k, hk⟩ : ∃ k, figs.length - p = k + 1 := ⟨figs.length - p - 1, by omega⟩
    rw [hk, show figs.length - (p + 1) = k by omega]
    show _ = readR (iter readR k _)
    rw [← iter_in readR k, read_sent _ _ hno]
    congr 2
    omega
theorem m_end {figs : List Int} {told text : Str} {left : Int} (h : MInv figs told text left figs.length) (hp : 0 < figs.length) : text = told := by
  obtain ⟨e, R, TR, he, h0, ht, htd, hno, hf, hl0, hl8, hd, hr⟩ := h
  rw [List.drop_length] at hd
  have := figs_nil hl0 hl8 hd.symm
  subst this
  rw [ht, htd, ← hr, h0 hp]
  simp [iter]
theorem m_start {N : Int} {en : Str} {rs : List Int} {figs : List Int} (h1 : 1 ≤ N) (h8 : N ≤ 8) (hf : figs = figsOf N) (hr : ∀ r ∈ rs, RowOk r) (hl : rs.length ≤ 4) (hen : EndOk en) :
    MInv figs (toldS N.toNat (2 ^ figs.length) rs) (Rx.glue (rs.map fun r => dotsS r ++ en)) N 0 := by
  obtain ⟨e, he, ee⟩ := hen
  refine ⟨e, (rs.map Int.toNat, 0), _, he, fun h => absurd h (by omega), ?_, rfl, ?_, ?_, by omega, h8, by rw [hf]; rfl, ?_⟩
  · apply St.str_eq
    rw [ee]
    show (rs.map fun r => dotsS r ++ ⟨e.toArray⟩).flatMap (·.cps.toList) = textOf e (rs.map Int.toNat) 0
    clear hr hl
    induction rs with
    | nil => simp [textOf, dots]
    | cons r rs ih =>
      rw [List.map_cons, List.flatMap_cons, ih, app_toList, List.map_cons]
      simp [textOf, dotsS]
  · refine ⟨fun r hr' => ?_, by show (0 : Nat) ≠ 1; decide⟩
    obtain ⟨q, hq, rfl⟩ := List.mem_map.mp hr'
    have := hr q hq
    unfold RowOk at this
    omega
  · refine ⟨by simpa using hl, fun r hr' => ?_, by show (0 : Nat) ≤ _; omega⟩
    obtain ⟨q, hq, rfl⟩ := List.mem_map.mp hr'
    have := hr q hq
    unfold RowOk at this
    omega
  · rw [sent_iter, reads_cut]
    unfold toldL
    rw [Nat.sub_zero, List.map_map]
    rfl
end L2
end Mine
end
section
open PySem PySem.W PyProof.Rows
set_option linter.unusedSimpArgs false
set_option linter.unusedVariables false
namespace Mine
namespace L2
open Rx Pa St
theorem f_len {S n : Int} {figs : List Int} (h : FInv (1 + S.fmod 8) n figs) (h0 : ¬ 0 < n) : 1 ≤ ((figs.length : Nat) : Int).toNat ∧ ((figs.length : Nat) : Int).toNat ≤ 3 := by
  have e := f_end h h0
  have h1 := fmod_lo S (n := 8) (by decide)
  have h2 := fmod_hi S (n := 8) (by decide)
  have h3 := figs_pos (n := 1 + S.fmod 8) (by omega) (by omega)
  have h4 := figs_len (n := 1 + S.fmod 8)
  rw [← e] at h3 h4
  omega
/-- the words of the told loop, over ints -/
def TW (N s : Int) (pre : List Int) (text : Str) : Prop := TInv N.toNat s.toNat pre text
theorem pow_nat (k : Nat) : ((2 : Int) ^ k) = ((2 ^ k : Nat) : Int) := by
  induction k with
  | zero => rfl
  | succ k ih => rw [Int.pow_succ, Nat.pow_succ, ih]; push_cast; rfl
theorem grow_int {row N : Int} (hr : RowOk row) (hN : 0 ≤ N) (h0 : row ≠ 0) : ((growBy (2 * N.toNat) row.toNat : Nat) : Int) = row + 2 * N := by
  unfold RowOk at hr
  unfold growBy
  rw [if_neg (by omega)]
  omega
theorem grow_zero (N : Nat) : growBy (2 * N) (0 : Int).toNat = 0 := rfl
theorem div_int {a : Nat} {x : Int} {k : Nat} (e : (a : Int) = x) : x.fdiv (2 ^ k) = ((a / (2 ^ k : Nat) : Nat) : Int) ∧ x.fmod (2 ^ k) = ((a % (2 ^ k : Nat) : Nat) : Int) := by
  subst e
  rw [pow_nat, Int.fdiv_eq_ediv_of_nonneg _ (Int.natCast_nonneg _), Int.fmod_eq_emod_of_nonneg _ (Int.natCast_nonneg _)]
  exact ⟨by push_cast; rfl, by push_cast; rfl⟩
theorem pow_toNat (k : Nat) : ((2 : Int) ^ k).toNat = 2 ^ k := by rw [pow_nat, Int.toNat_natCast]
theorem w_start {N s : Int} : TW N s [] (Str.ofString "") ∧ (Str.ofString "").length ≤ 300 := ⟨t_start, by decide +kernel⟩
theorem w_go {N row : Int} {k : Nat} {pre rs post : List Int} {text : Str} (h : TW N (2 ^ k) pre text) (hN : 0 ≤ N) (hN8 : N ≤ 8) (hr : ∀ r ∈ rs, RowOk r) (e : rs = pre ++ row :: post) (hl : rs.length ≤ 4) (h0 : row ≠ 0) (hm : (row + 2 * N).fmod (2 ^ k) = 0) :
    TW N (2 ^ k) (pre ++ [row]) (text ++ dotsS ((row + 2 * N).fdiv (2 ^ k)) ++ Str.ofString "\x0d\n") ∧ (text ++ dotsS ((row + 2 * N).fdiv (2 ^ k)) ++ Str.ofString "\x0d\n").length ≤ 300 := by
  have hrow : RowOk row := hr row (by rw [e]; simp)
  obtain ⟨e1, e2⟩ := div_int (k := k) (grow_int hrow hN h0)
  unfold TW at h ⊢
  rw [pow_toNat] at h ⊢
  rw [e2] at hm
  rw [e1]
  have := t_go (r := row) h (by omega)
  refine ⟨this, t_len this (Nat.one_le_two_pow) (by omega) (fun r hr' => hr r (by rw [e]; rcases List.mem_append.mp hr' with x | x <;> simp [x]; simp at x; simp [x])) ?_⟩
  rw [e] at hl
  simp at hl ⊢
  omega
theorem w_go0 {N : Int} {k : Nat} {pre rs post : List Int} {text : Str} (h : TW N (2 ^ k) pre text) (hN8 : N ≤ 8) (hr : ∀ r ∈ rs, RowOk r) (e : rs = pre ++ 0 :: post) (hl : rs.length ≤ 4) :
    TW N (2 ^ k) (pre ++ [0]) (text ++ dotsS ((0 : Int).fdiv (2 ^ k)) ++ Str.ofString "\x0d\n") ∧ (text ++ dotsS ((0 : Int).fdiv (2 ^ k)) ++ Str.ofString "\x0d\n").length ≤ 300 := by
  unfold TW at h ⊢
  rw [pow_toNat] at h ⊢
  have e1 : (0 : Int).fdiv (2 ^ k) = ((growBy (2 * N.toNat) (0 : Int).toNat / 2 ^ k : Nat) : Int) := by rw [grow_zero]; simp
  rw [e1]
  have := t_go (r := 0) h (by rw [grow_zero]; simp)
  refine ⟨this, t_len this (Nat.one_le_two_pow) (by omega) (fun r hr' => hr r (by rw [e]; rcases List.mem_append.mp hr' with x | x <;> simp [x]; simp at x; simp [x])) ?_⟩
  rw [e] at hl
  simp at hl ⊢
  omega
theorem w_stop {N row : Int} {k : Nat} {pre rs post : List Int} {text : Str} (h : TW N (2 ^ k) pre text) (hN : 0 ≤ N) (hr : ∀ r ∈ rs, RowOk r) (e : rs = pre ++ row :: post) (h0 : row ≠ 0) (hm : (row + 2 * N).fmod (2 ^ k) ≠ 0) :
    text ++ dotsS ((row + 2 * N).fdiv (2 ^ k)) = toldS N.toNat (2 ^ k) rs := by
  have hrow : RowOk row := hr row (by rw [e]; simp)
  obtain ⟨e1, e2⟩ := div_int (k := k) (grow_int hrow hN h0)
  unfold TW at h
  rw [pow_toNat] at h
  rw [e2] at hm
  rw [e1]
  exact t_stop h e (by omega)
theorem w_bnd {row S : Int} {k : Nat} (hr : RowOk row) : 0 ≤ (row + 2 * (1 + S.fmod 8)).fdiv (2 ^ k) ∧ (row + 2 * (1 + S.fmod 8)).fdiv (2 ^ k) ≤ 1000 := by
  have h1 := fmod_lo S (n := 8) (by decide)
  have h2 := fmod_hi S (n := 8) (by decide)
  obtain ⟨a, ha⟩ : ∃ a : Nat, (a : Int) = row + 2 * (1 + S.fmod 8) := by
    unfold RowOk at hr
    exact ⟨(row + 2 * (1 + S.fmod 8)).toNat, by omega⟩
  rw [(div_int ha).1]
  have h5 := Nat.div_le_self a (2 ^ k)
  generalize a / 2 ^ k = d at h5
  unfold RowOk at hr
  omega
theorem w_bnd0 {k : Nat} : 0 ≤ (0 : Int).fdiv (2 ^ k) ∧ (0 : Int).fdiv (2 ^ k) ≤ 1000 := by simp
/-! the rounds' start -/
theorem m_begin {S n : Int} {figs rs cs : List Int} {en told : Str} (hF : FInv (1 + S.fmod 8) n figs) (h0 : ¬ 0 < n) (hr : ∀ r ∈ rs, RowOk r) (hl : rs.length = cs.length) (hc : cs.length = 4) (hen : EndOk en)
    (ht : told = toldS (1 + S.fmod 8).toNat (2 ^ ((figs.length : Nat) : Int).toNat) rs) : MInv figs told (glue (rs.map fun k => dotsS k ++ en)) (1 + S.fmod 8) ([] : List Int).length := by
  have h1 := fmod_lo S (n := 8) (by decide)
  have h2 := fmod_hi S (n := 8) (by decide)
  rw [ht, Int.toNat_natCast]
  exact m_start (by omega) (by omega) (f_end hF h0) hr (by omega) hen
theorem m_begin_end {S n : Int} {figs rs cs : List Int} {en text : Str} (hF : FInv (1 + S.fmod 8) n figs) (h0 : ¬ 0 < n) (hr : ∀ r ∈ rs, RowOk r) (hl : rs.length = cs.length) (hc : cs.length = 4) (hen : EndOk en)
    (ht : TW (1 + S.fmod 8) (2 ^ ((figs.length : Nat) : Int).toNat) rs text) : MInv figs text (glue (rs.map fun k => dotsS k ++ en)) (1 + S.fmod 8) ([] : List Int).length := by
  unfold TW at ht
  rw [pow_toNat] at ht
  exact m_begin hF h0 hr hl hc hen (t_end ht)
theorem m_begin_stop {S n row : Int} {figs rs cs pre post : List Int} {en text : Str} (hF : FInv (1 + S.fmod 8) n figs) (h0 : ¬ 0 < n) (hr : ∀ r ∈ rs, RowOk r) (hl : rs.length = cs.length) (hc : cs.length = 4) (hen : EndOk en)
    (ht : TW (1 + S.fmod 8) (2 ^ ((figs.length : Nat) : Int).toNat) pre text) (e : rs = pre ++ row :: post) (hrow : row ≠ 0) (hm : (row + 2 * (1 + S.fmod 8)).fmod (2 ^ ((figs.length : Nat) : Int).toNat) ≠ 0) :
    MInv figs (text ++ dotsS ((row + 2 * (1 + S.fmod 8)).fdiv (2 ^ ((figs.length : Nat) : Int).toNat))) (glue (rs.map fun k => dotsS k ++ en)) (1 + S.fmod 8) ([] : List Int).length := by
  have h1 := fmod_lo S (n := 8) (by decide)
  exact m_begin hF h0 hr hl hc hen (w_stop ht (by omega) hr e hrow hm)
theorem pre_sent {figs : List Int} {told text : Str} {left : Int} {p : Nat} (h : MInv figs told text left p) (hp : p ≤ 3) : Shp 4000 text ∧ 0 ≤ 2 * left ∧ 2 * left ≤ 64 := by
  have := m_left h
  exact ⟨m_shp h hp, by omega, by omega⟩
theorem pre_read1 {figs : List Int} {told text : Str} {left : Int} {p : Nat} (h : MInv figs told text left p) (hp : p ≤ 3) : Shp 4000 text ∧ (0 : Int) ≤ 1 ∧ (1 : Int) ≤ 64 := ⟨m_shp h hp, by decide, by decide⟩
theorem m_shp2 {figs : List Int} {told text : Str} {left : Int} {p : Nat} (h : MInv figs told text left p) (hp : p ≤ 3) : Shp 4000 (iter quoteS (2 * left).toNat text) := by
  have hl := m_left h
  obtain ⟨e, R, TR, he, _, ht, _, _, hf, _⟩ := h
  exact shp_mono (shp_quotes ⟨e, R, he, hf, ht⟩ _) (by omega)
theorem pre_read2 {figs : List Int} {told text : Str} {left : Int} {p : Nat} {k : Int} (h : MInv figs told text left p) (hp : p ≤ 3) (h0 : 0 ≤ k) (h1 : k ≤ 64) : Shp 4000 (iter quoteS (2 * left).toNat text) ∧ 0 ≤ k ∧ k ≤ 64 := ⟨m_shp2 h hp, h0, h1⟩
theorem pre_sent2 {figs : List Int} {told text : Str} {left : Int} {p : Nat} {f : Int} (h : MInv figs told text left p) (hp : p ≤ 3) (hp' : p < figs.length) (hf : f = figs.getD p 0) : Shp 4000 (iter readS (1 : Int).toNat text) ∧ 0 ≤ f ∧ f ≤ 64 := by
  have hh := m_head h hp'
  have h2 : 2 - left.fmod 2 = 1 ∨ 2 - left.fmod 2 = 2 := (figs_step hh.1 (m_left h).2).2.1
  rw [hh.2] at hf
  exact ⟨shp_reads (m_shp h hp) _, by omega, by omega⟩
theorem m_same {figs : List Int} {told text : Str} {left k : Int} {p : Nat} (h : MInv figs told text left p) (hp : p < figs.length) (hk : k = (figs.length : Int) - (p : Int)) : (iter readS k.toNat (iter quoteS (2 * left).toNat text) != told) = false := by
  have : k.toNat = figs.length - p := by omega
  rw [this, m_told h hp]
  simp
end L2
end Mine
end
section
open PySem PySem.W PyProof.Rows PySem.Builtin PySem.Builtin.Str
set_option linter.unusedSimpArgs false
set_option linter.unusedVariables false
namespace Mine
open Rx Pa L2 Tk
section
variable {prog : Program} {w : World} {A : Around} {E : Value → Shared → Prop} {s : Shared} {Q : Value → Shared → Prop}
theorem replace_le (x y z : PySem.Str) : (Txt.replace x y z).length ≤ x.length + (x.length + 1) * z.length := by
  unfold Txt.replace
  split
  · omega
  · have h1 := StrLaws.occ_length_le x y 0 x.length (x.length + 1)
    have hy : (glued y (partsBetween x (occurrences x y 0 x.length (x.length + 1)) y.length)).length = x.length := by rw [StrLaws.glued_between_self]
    rw [size_glued, length_partsBetween, Nat.add_sub_cancel] at hy
    rw [size_glued, length_partsBetween, Nat.add_sub_cancel]
    have h2 : (occurrences x y 0 x.length (x.length + 1)).length * z.length ≤ (x.length + 1) * z.length := Nat.mul_le_mul_right _ h1
    omega
theorem replaceP {x y z : PySem.Str} {t u v : Tok} (b : Nat) (hz : z.length ≤ b) (hu : @Ne Nat u 0) (hv : @Ne Nat v 0) (huv : @Ne Nat u v) (hyz : (y == z) = false) (hb : x.length + (x.length + 1) * b ≤ 16777216)
    (h : ∀ (t' : Tok) (k : Nat), s.toks ≤ k → (Txt.replace x y z).length ≤ x.length + (x.length + 1) * b → Q (.str (Txt.replace x y z) t') { s with toks := k }) :
    wpAny (model prog w) A (call (.builtin "str.replace") [.str x t, .str y u, .str z v]) Q E s := by
  have h1 : (x.length + 1) * z.length ≤ (x.length + 1) * b := Nat.mul_le_mul_left _ hz
  refine grown (SC.replace hu hv huv hyz (by omega) (fun t' k hk => h t' k hk ?_))
  have := replace_le x y z
  omega
theorem addP {x y : PySem.Str} {t u : Tok} (a : Nat) (hx : x.length ≤ a) (hb : a + y.length ≤ 16777216)
    (h : ∀ (t' : Tok) (k : Nat), s.toks ≤ k → (x ++ y).length = x.length + y.length → (x ++ y).length ≤ a + y.length → Q (.str (x ++ y) t') { s with toks := k }) :
    wpAny (model prog w) A (binaryOp .Add (.str x t) (.str y u)) Q E s := by
  have e := Str.length_append x y
  exact grown (SBL.add (fun t' k _ hk => h t' k hk e (by omega)) (by rw [sizeLine_eq]; omega))
end
theorem use_c {prog : Program} {w : World} {K : Frag} {p : Program} {loose : List PySem.Str} {mean : ExcName → Option Value} {mg mb : PySem.Str → Option Value} {f : Addr} {news : List (Addr × Obj)} {pre : Prop} {vs : List Value} {R : Tok → Value}
    (C : CbClaim prog w K p loose mean mg mb f news [] pre vs R)
    {dp un : Nat} {gd : Option (List Code)} {cn : PySem.Str} {cs : Scope} {a : Addr} {ccd : Value} {cl : List (PySem.Str × Addr)} {outer : List Env} {A₀ : Around} {base h₀ : Heap} {L : Addr} {m : PySem.Str → Option Value} {s : Shared} {Q E : Value → Shared → Prop}
    (B : Below A₀ base outer h₀) (F : Fr h₀ L s.heap m) (X : K.In h₀) (N : News h₀ L s.heap news) (T : Top p loose mean mg mb h₀) (hk : cs.kind = .function) (hp : pre) (hd : dp + 1 < recursionLimit) (hu : un + 8 < cLine)
    (ret : ∀ (t : Tok) (h' : Heap) (tk' : Nat), s.toks ≤ tk' → Fr h₀ L h' m → News h₀ L h' news → Q (R t) { s with heap := h', toks := tk' }) :
    wpAny (model prog w) (ktrTop dp un gd cn cs L a ccd cl outer) (call (.ref f) vs) Q E s := grown (C _ _ _ _ _ _ _ _ _ _ _ _ _ _ _ _ _ B F X N T hk hp hd hu (fun t h' tk' F' N' hs => ret t h' tk' hs F' N'))
/-- a contract with room for calls within -/
abbrev CC (prog : Program) (w : World) (K : Frag) (p : Program) (loose : List PySem.Str) (mean : ExcName → Option Value) (mg mb : PySem.Str → Option Value) (f : Addr) (pre : Prop) (vs : List Value) (R : Tok → Value) : Prop :=
  ∀ (news : List (Addr × Obj)) (dp un : Nat) (gd : Option (List Code)) (cn : PySem.Str) (cs : Scope) (a : Addr) (ccd : Value) (cl : List (PySem.Str × Addr)) (outer : List Env) (A₀ : Around) (base h₀ : Heap) (L : Addr) (m : PySem.Str → Option Value) (s : Shared) (Q E : Value → Shared → Prop),
    Below A₀ base outer h₀ → Fr h₀ L s.heap m → K.In h₀ → News h₀ L s.heap news → Top p loose mean mg mb h₀ → cs.kind = .function →
    pre → dp + 8 < recursionLimit → un + 64 < cLine → (∀ (t : Tok) (h' : Heap) (tk' : Nat), Fr h₀ L h' m → News h₀ L h' news → Q (R t) { s with heap := h', toks := tk' }) →
      wpAny (model prog w) (ktrTop dp un gd cn cs L a ccd cl outer) (call (.ref f) vs) Q E s
theorem use_cc {prog : Program} {w : World} {K : Frag} {p : Program} {loose : List PySem.Str} {mean : ExcName → Option Value} {mg mb : PySem.Str → Option Value} {f : Addr} {pre : Prop} {vs : List Value} {R : Tok → Value}
    (C : CC prog w K p loose mean mg mb f pre vs R) {news : List (Addr × Obj)}
    {dp un : Nat} {gd : Option (List Code)} {cn : PySem.Str} {cs : Scope} {a : Addr} {ccd : Value} {cl : List (PySem.Str × Addr)} {outer : List Env} {A₀ : Around} {base h₀ : Heap} {L : Addr} {m : PySem.Str → Option Value} {s : Shared} {Q E : Value → Shared → Prop}
    (B : Below A₀ base outer h₀) (F : Fr h₀ L s.heap m) (X : K.In h₀) (N : News h₀ L s.heap news) (T : Top p loose mean mg mb h₀) (hk : cs.kind = .function) (hp : pre) (hd : dp + 8 < recursionLimit) (hu : un + 64 < cLine)
    (ret : ∀ (t : Tok) (h' : Heap) (tk' : Nat), s.toks ≤ tk' → Fr h₀ L h' m → News h₀ L h' news → Q (R t) { s with heap := h', toks := tk' }) :
    wpAny (model prog w) (ktrTop dp un gd cn cs L a ccd cl outer) (call (.ref f) vs) Q E s := grown (C _ _ _ _ _ _ _ _ _ _ _ _ _ _ _ _ _ _ B F X N T hk hp hd hu (fun t h' tk' F' N' hs => ret t h' tk' hs F' N'))
theorem one_len : (PySem.Str.ofString "\"").length ≤ 1 := by decide +kernel
theorem dot_len : (PySem.Str.ofString ".").length ≤ 1 := by decide +kernel
theorem two_len : (PySem.Str.ofString "\"\"").length ≤ 2 := by decide +kernel
theorem head_len : (PySem.Str.ofString "257 \"").length ≤ 5 := by decide +kernel
end Mine
end
section
open PySem PySem.W PyProof.Rows PySem.Builtin PySem.Builtin.Str
set_option linter.unusedSimpArgs false
set_option linter.unusedVariables false
namespace Mine
open Rx Pa L2 Tk
section
variable {prog : Program} {w : World} {A : Around} {E : Value → Shared → Prop} {s : Shared} {h₀ : Heap} {L a b : Addr} {m : PySem.Str → Option Value} {news : List (Addr × Obj)} {vs ws zs : List Value} {ns ms : List Int} {Q : Value → Shared → Prop}
/-- a list of ints glued of two, of which the length alone is kept -/
theorem add_abs (n : Nat) (F : Fr h₀ L s.heap m) (N : News h₀ L s.heap news) (ha : s.heap.IsList a vs.toArray) (hb : s.heap.IsList b ws.toArray) (hi : IntsAre vs ns) (hj : IntsAre ws ms) (hl : ns.length + ms.length = n) (hn : n ≤ 1000)
    (h : ∀ D us h' (cs : List Int), cs.length = n → Fr h₀ L h' m → News h₀ L h' ((D, listOf (List.toArray us) 0) :: news) → (∀ p ∈ news, p.1 < D) → IntsAre us cs → Q (.ref D) { s with heap := h' }) :
    wpAny (model prog w) A (binaryOp .Add (.ref a) (.ref b)) Q E s :=
  kmk_add_ints F N ha hb hi hj (fun D us h' F' N' l hI => h D us h' (ns ++ ms) (by rw [List.length_append]; exact hl) F' N' l hI) (by rw [sizeLine_eq]; omega)
theorem sumA {l : Addr} (hh : A.handled = none) (F : Fr h₀ L s.heap m) (N : News h₀ L s.heap news) (hl : s.heap.IsList l vs.toArray) (hi : IntsAre vs ns)
    (h : ∀ (S : Int) h' tk t', Fr h₀ L h' m → News h₀ L h' news → Q (.int S t') { s with heap := h', toks := tk }) :
    wpAny (model prog w) A (call (.builtin "sum") [.ref l]) Q E s := sumK hh F N hl hi (fun h' tk t' F' N' => h ns.sum h' tk t' F' N')
theorem lenA {l : Addr} (hl : s.heap.IsList l vs.toArray) (hi : IntsAre vs ns) (hn : ns.length ≤ 1000000) (h : ∀ (t' : Tok) (k : Nat), s.toks ≤ k → Q (.int (ns.length : Int) t') { s with toks := k }) :
    wpAny (model prog w) A (call (.builtin "len") [.ref l]) Q E s := by
  have e := hi.length
  refine len_list hl (by rw [List.size_toArray]; omega) ?_
  rw [List.size_toArray, e]
  exact h _ _ (by omega)
theorem slice_tail {value slice : PySem.Expr} {l : Addr} {k : Int} {u : Tok} (F : Fr h₀ L s.heap m) (N : News h₀ L s.heap news) (hl : s.heap.IsList l vs.toArray) (hi : IntsAre vs ns) (h0 : 0 ≤ k) (hk : k ≤ (ns.length : Int)) (hn : ns.length ≤ 1000)
    (hs : subscripted slice false (.ref l) (.ref s.heap.objs.size) = operate [.ref s.heap.objs.size, .ref l] (getItem (.ref l) (.ref s.heap.objs.size))) (ht : ∀ r, letTemporaryGo value (.ref l) r = pure ())
    (h : ∀ D ws h' (ms : List Int), (ms.length : Int) = (ns.length : Int) - k → Fr h₀ L h' m → News h₀ L h' ((D, listOf (List.toArray ws) 0) :: news) → (∀ p ∈ news, p.1 < D) → IntsAre ws ms → Q (.ref D) { s with heap := h' }) :
    wpAny (model prog w) A (subscriptTail value slice (.ref l) (.ref s.heap.objs.size)) Q E { s with heap := s.heap.push { cls := .type "slice", data := .fields #[.int k u, .none, .none] } } := by
  have e := hi.length
  refine kmk_slice_ints (ms := ns.drop k.toNat) F N hl (IsPart.int _ _) IsPart.none hi ?_ rfl (fun D ws h' F' N' l1 hI _ _ => h D ws h' (ns.drop k.toNat) ?_ F' N' l1 hI) hs ht (by rw [List.size_toArray, sizeLine_eq]; omega)
  · rw [kms_pick_eq]
    unfold kms_pick
    have e1 : kms_lo (some k) vs.toArray.toList.length = k.toNat := by
      show (if k < 0 then vs.toArray.toList.length - (-k).toNat else min k.toNat vs.toArray.toList.length) = _
      rw [if_neg (by omega), List.toList_toArray]
      omega
    have e2 : kms_hi none vs.toArray.toList.length = vs.length := by simp [kms_hi]
    rw [e1, e2]
    have : (List.drop k.toNat vs.toArray.toList).length ≤ vs.length - k.toNat := by simp
    rw [List.take_of_length_le this]
    simpa using hi.drop k.toNat
  · rw [List.length_drop]
    omega
theorem item_end {value slice : PySem.Expr} {l : Addr} {S : Int} {u : Tok} (hl : s.heap.IsList l vs.toArray) (hw : StrsAre vs [PySem.Str.ofString "\n", PySem.Str.ofString "\x0d\n", PySem.Str.ofString "\x0d"])
    (hs : subscripted slice false (.ref l) (.int (S.fmod 3) u) = operate [.ref l, .int (S.fmod 3) u] (getItem (.ref l) (.int (S.fmod 3) u)))
    (h : ∀ (t' : Tok) (en : PySem.Str), EndOk en → en.length ≤ 2 → Q (.str en t') s) :
    wpAny (model prog w) A (subscriptTail value slice (.ref l) (.int (S.fmod 3) u)) Q E s := by
  have h0 := fmod_lo S (n := 3) (by decide)
  have h3 := fmod_hi S (n := 3) (by decide)
  refine KTb.item_list hl hw h0 (by show S.fmod 3 < 3; exact h3) (by omega) (fun t' _ => ?_) hs
  have e : EndOk (endS (S.fmod 3)) := endS_ok h0 h3
  exact h t' _ e (endOk_len e)
theorem pow_ne (k : Nat) : (2 : Int) ^ k ≠ 0 := by rw [pow_nat]; exact Int.natCast_ne_zero.mpr (Nat.pos_iff_ne_zero.mp (Nat.two_pow_pos k))
theorem modz {b : Int} {t u : Tok} (hb : b ≠ 0) (h : Q (.int 0 s.toks) { s with toks := s.toks + 1 }) : wpAny (model prog w) A (binaryOp .Mod (.int 0 t) (.int b u)) Q E s :=
  mod_int' hb (by rw [Int.zero_fmod]; exact h)
theorem mul_dots (n : Int) : Txt.mul (PySem.Str.ofString ".") n = dotsS n := by
  rw [dot_is]
  unfold Txt.mul dotsS dots
  split
  · rw [show n.toNat = 0 by omega]; rfl
  · split
    · have : n = 1 := by
        rename_i h
        rcases Bool.or_eq_true_iff.mp h with x | x
        · simpa using x
        · exact absurd x (by decide)
      subst this; rfl
    · have key : ∀ (k : Nat) (acc : Array Nat), ((List.replicate k (#[46] : Array Nat)).foldl (· ++ ·) acc).toList = acc.toList ++ List.replicate k 46 := by
        intro k
        induction k with
        | zero => intro acc; simp
        | succ k ih => intro acc; rw [List.replicate_succ, List.foldl_cons, ih, List.replicate_succ]; simp
      apply St.str_eq
      show ((List.replicate n.toNat (#[46] : Array Nat)).foldl (· ++ ·) #[]).toList = _
      rw [key]
      simp
theorem mulP {n : Int} {t u : Tok} (h0 : 0 ≤ n) (h1 : n ≤ 100000) (h : ∀ (t' : Tok) (k : Nat), s.toks ≤ k → (dotsS n).length = n.toNat → (dotsS n).length ≤ 100000 → Q (.str (dotsS n) t') { s with toks := k }) :
    wpAny (model prog w) A (binaryOp .Mult (.str (PySem.Str.ofString ".") t) (.int n u)) Q E s := by
  refine grown (SB.mul (mulOk_of 16 1048576 (Nat.le_trans dot_len (by decide)) (by omega) (by omega) (by decide) (by decide)) (fun t' k hk => ?_))
  rw [mul_dots]
  exact h t' k hk (dotsS_len n) (by rw [dotsS_len]; omega)
theorem iaddP {x y : PySem.Str} {t u : Tok} (a b : Nat) (hx : x.length ≤ a) (hy : y.length ≤ b) (hb : a + b ≤ 16777216)
    (h : ∀ (t' : Tok) (k : Nat), s.toks ≤ k → (x ++ y).length ≤ a + b → Q (.str (x ++ y) t') { s with toks := k }) :
    wpAny (model prog w) A (inplaceOp .Add (.str x t) (.str y u)) Q E s := by
  have e := Str.length_append x y
  exact grown (SBL.iadd (fun t' k _ hk => h t' k hk (by omega)) (by rw [sizeLine_eq]; omega))
theorem crlf_len : (PySem.Str.ofString "\x0d\n").length ≤ 2 := by decide +kernel
theorem strs_of {β : Type} {g : β → PySem.Str} : ∀ {ys : List Value} {l : List β}, CarriedAll ys (l.map fun a => PyData.str (g a)) → StrsAre ys (l.map g)
  | ys, [], h => by cases h; exact .nil
  | ys, x :: l, h => by
    cases h with
    | cons h1 h2 =>
      cases h1
      exact .cons _ _ (strs_of h2)
theorem empty_is : PySem.Str.ofString "" = ⟨#[]⟩ := by decide +kernel
theorem joinP {β : Type} {g : β → PySem.Str} {l : List β} {D : Addr} {t : Tok} {ys : List Value} (B : Nat) (hl : s.heap.IsList D ys.toArray) (hc : CarriedAll ys (l.map fun a => PyData.str (g a))) (hB : ∀ x ∈ l, (g x).length ≤ B) (hn : l.length * B ≤ 16777216)
    (h : ∀ (t' : Tok) (k : Nat), s.toks ≤ k → Q (.str (glue (l.map g)) t') { s with toks := k }) : wpAny (model prog w) A (call (.builtin "str.join") [.str (PySem.Str.ofString "") t, .ref D]) Q E s := by
  rw [empty_is]
  refine grown (join_list (ys := l.map g) hl (strs_of hc) ?_ (fun t' k hk => ?_))
  · have e0 : (⟨#[]⟩ : PySem.Str).length = 0 := rfl
    rw [e0, Nat.mul_zero, Nat.add_zero, List.map_map]
    have : ∀ l' : List β, (∀ x ∈ l', (g x).length ≤ B) → (l'.map ((fun x => x.length) ∘ g)).sum ≤ l'.length * B := by
      intro l' hl'
      induction l' with
      | nil => simp
      | cons x l' ih =>
        have h1 := ih (fun y hy => hl' y (.tail _ hy))
        have h2 := hl' x (.head _)
        simp only [List.map_cons, List.sum_cons, List.length_cons, Function.comp]
        rw [Nat.add_mul]
        have : (l'.map ((fun x => x.length) ∘ g)).sum = (l'.map (fun x => (g x).length)).sum := rfl
        omega
    exact Nat.le_trans (this l hB) hn
  · rw [join_nil_eq]
    exact h t' k hk
end
theorem kpf_abs {ks : List Int} {g : Int → Int} {R : Int → Prop} {Fin : List Value → List (Addr × Obj) → Prop} {news : List (Addr × Obj)} (hR : ∀ k ∈ ks, R (g k))
    (h : KPfDone (∀ (ys : List Value) (rs : List Int), IntsAre ys rs → rs.length = ks.length → (∀ r ∈ rs, R r) → Fin ys news)) : KPfDone (∀ ys, IntsAre ys (ks.map g) → Fin ys news) := by
  unfold KPfDone at h ⊢
  exact fun ys hI => h ys _ hI (by simp) (fun r hr => by obtain ⟨k, hk, rfl⟩ := List.mem_map.mp hr; exact hR k hk)
theorem kpf_len {ks : List Int} {g : Int → Int} (n : Nat) {Fin : List Value → List (Addr × Obj) → Prop} {news : List (Addr × Obj)} (hn : ks.length ≤ n)
    (h : KPfDone (∀ (ys : List Value) (rs : List Int), IntsAre ys rs → rs.length ≤ n → Fin ys news)) : KPfDone (∀ ys, IntsAre ys (ks.map g) → Fin ys news) := by
  unfold KPfDone at h ⊢
  exact fun ys hI => h ys _ hI (by simpa using hn)
section
variable {prog : Program} {w : World} {A : Around} {h₀ : Heap} {L : Addr} {m : PySem.Str → Option Value} {env : Env} {elt : PySem.Expr} {x : PySem.Str} {scope : Scope} {cl : List (PySem.Str × Addr)} {s : Shared} {S : List (Addr × Obj) → Prop} {Fin : List Value → List (Addr × Obj) → Prop} {news : List (Addr × Obj)}
theorem kct_rows {vs : List Value} {ns : List Int} {en : PySem.Str} (hen : EndOk en) (hi : IntsAre vs ns)
    (turn : ∀ k t I oI C oC D m₂ ys h tk (E' : Value → Shared → Prop), k ∈ ns → LCg.NsObj oC m₂ → m₂ x = some (.int k t) → Fr h₀ L h m → News h₀ L h ((I, oI) :: (C, oC) :: (D, LCg.lst ys) :: news) → LCg.Off3 I C D news → ((@Ne Nat I C) ∧ (@Ne Nat I D) ∧ (@Ne Nat C D)) → KPfMark →
      wpAny (model prog w) A (eval elt (compEnvC scope cl C env)) (LCg.CompEnd h₀ L m { s with heap := h, toks := tk } I oI C oC D (LCg.lst ys) S (fun y news' => KCtEl news (dotsS k ++ en) y news')) E' { s with heap := h, toks := tk })
    (fin : KPfDone (∀ ys, CarriedAll ys (ns.map fun k => PyData.str (dotsS k ++ en)) → ns.length = vs.toArray.size → Fin ys news)) : LCg.CompRest prog w A h₀ L m env elt x scope cl s S (fun i v => vs.toArray[i]? = some v) Fin vs.toArray.size 0 [] news :=
  kct_list (fun k => dotsS k ++ en) hi turn fin
theorem kct_end {I C D : Addr} {s₁ : Shared} {oI oC oD : Obj} {h' : Heap} {tk : Nat} {r : PySem.Str} {t : Tok} (F : Fr h₀ L h' m) (N : News h₀ L h' ((I, oI) :: (C, oC) :: (D, oD) :: news)) (off : LCg.Off3 I C D news) (hS : S news) :
    LCg.CompEnd h₀ L m s₁ I oI C oC D oD S (fun y news' => KCtEl news r y news') (.str r t) { s₁ with heap := h', toks := tk } := LCg.CompEnd.intro F N news (fun p hp => hp) off hS ⟨rfl, t, rfl⟩
end
/-- a turn's end under k_state where the ledger is as it was -/
theorem kst_endS {σ : Type} {h₀ : Heap} {x : PySem.Str} {Led : σ → List (Addr × Obj)} {ps : σ → List (PySem.Str × Value)} {Facts : σ → Prop} {stored : List PySem.Str} {m₀ : PySem.Str → Option Value} {P : List Int → σ → Prop} {pre : List Int} (c : σ) {L : Addr} {m' : PySem.Str → Option Value} {own : List (Addr × Obj)} {adr : List Addr} {s₁ : Shared} {h' : Heap} {tk : Nat}
    (F : Fr h₀ L h' m') (N : News h₀ L h' (Led c ++ own)) (ha : (Led c).map (·.1) = adr) (hf : Facts c) (hk : ∀ p ∈ ps c, m' p.1 = some p.2) (hr : ∀ z, z ≠ x → (∀ p ∈ ps c, z ≠ p.1) → stored.contains z = false → m' z = m₀ z) (hp : P pre c) :
    InvEndN h₀ L (KstS Led ps Facts x stored m₀ P pre) own adr s₁ { s₁ with heap := h', toks := tk } :=
  kst_end c F N (fun p hp => List.mem_append_left _ hp) (fun p hp => List.mem_append_right _ hp) ha hf hk hr hp
end Mine
end
section
open PySem PySem.W PyProof.Rows
set_option maxRecDepth 100000
set_option maxHeartbeats 8000000
namespace Mine
open Rx
theorem pat1 {w : World} {h₀ : Heap} (X : (Mine.hd.heap_39 w.params).In h₀) : IsPat h₀ 36 c1 :=
  ⟨_, _, 35, _, _, _, _, X 36 _ (by rfl), rfl, rfl, rfl, X 35 _ (by rfl), rfl, by decide +kernel⟩
theorem pat2 {w : World} {h₀ : Heap} (X : (Mine.hd.heap_39 w.params).In h₀) : IsPat h₀ 41 c2 :=
  ⟨_, _, 40, _, _, _, _, X 41 _ (by rfl), rfl, rfl, rfl, X 40 _ (by rfl), rfl, by decide +kernel⟩
section
variable {prog : Program} {w : World} {A : Around} {E : Value → Shared → Prop} {s : Shared} {h₀ : Heap} {L : Addr} {m : Str → Option Value} {news : List (Addr × Obj)} {x : Str} {t tr : Tok} {pl : Sem Bool}
theorem meth1 {Q : Value × List Value → Shared → Prop} (F : Fr h₀ L s.heap m) (X : (Mine.hd.heap_39 w.params).In h₀) (h : Q (.builtin "re.Pattern.sub", [.ref 36]) s) : wpAny (model prog w) A (getMethod (.ref 36) "sub" pl) Q E s :=
  getMethod_sub ((pat1 X).keeps F.keep) h
theorem meth2 {Q : Value × List Value → Shared → Prop} (F : Fr h₀ L s.heap m) (X : (Mine.hd.heap_39 w.params).In h₀) (h : Q (.builtin "re.Pattern.sub", [.ref 41]) s) : wpAny (model prog w) A (getMethod (.ref 41) "sub" pl) Q E s :=
  getMethod_sub ((pat2 X).keeps F.keep) h
theorem csub1 {Q : Value → Shared → Prop} (F : Fr h₀ L s.heap m) (X : (Mine.hd.heap_39 w.params).In h₀) (N : News h₀ L s.heap news) (hx : x.length ≤ 1000000)
    (h : ∀ h' tk t', Fr h₀ L h' m → News h₀ L h' news → Q (.str (dotS x) t') { s with heap := h', toks := tk }) :
    wpAny (model prog w) A (call (.builtin "re.Pattern.sub") ([.ref 36] ++ [.str (Str.ofString "..") tr, .str x t])) Q E s :=
  sub1 hx ((pat1 X).keeps F.keep) (fun h' tk t' hk => h h' tk t' (F.keeps hk) (fun p hp => ⟨hk _ _ (N p hp).1, (N p hp).2⟩))
theorem csub2 {Q : Value → Shared → Prop} (F : Fr h₀ L s.heap m) (X : (Mine.hd.heap_39 w.params).In h₀) (N : News h₀ L s.heap news) (hx : x.length ≤ 1000000)
    (h : ∀ h' tk t', Fr h₀ L h' m → News h₀ L h' news → Q (.str (crlfS x) t') { s with heap := h', toks := tk }) :
    wpAny (model prog w) A (call (.builtin "re.Pattern.sub") ([.ref 41] ++ [.str (Str.ofString "\x0d\n") tr, .str x t])) Q E s :=
  sub2 hx ((pat2 X).keeps F.keep) (fun h' tk t' hk => h h' tk t' (F.keeps hk) (fun p hp => ⟨hk _ _ (N p hp).1, (N p hp).2⟩))
end
theorem crlf_fits {x : Str} (h : x.length ≤ 400000) : (crlfS x).length ≤ 1000000 := by
  have := crlfL_length x.cps.toList
  have e : x.cps.toList.length = x.length := by simp [Str.length]
  show (crlfL x.cps.toList).toArray.size ≤ _
  rw [List.size_toArray]
  omega
theorem some_fits {x : Str} (h : x.length ≤ 400000) : x.length ≤ 1000000 := by omega
local macro_rules | `(tactic| walk_at "getMethod ref") => `(tactic| (k_here; (with_reducible show wpAny _ _ (getMethod (Value.ref _) (PySem.Str.ofString "sub") _) _ _ _); k_dflt (first
  | (refine' meth1 ?k1 ?k2 ?_; (case k1 => k_asm); (case k2 => k_asm); k_whole)
  | (refine' meth2 ?k1 ?k2 ?_; (case k1 => k_asm); (case k2 => k_asm); k_whole))))
local macro_rules | `(tactic| walk_at "call builtin:re.Pattern.sub") => `(tactic| (k_here; k_dflt (first
  | (refine' csub1 ?k1 ?k2 ?k3 ?k4 ?_; (case k1 => k_asm); (case k2 => k_asm); (case k3 => k_asm); (case k4 => first | exact crlf_fits (by assumption) | exact some_fits (by assumption)); k_whole; intro h' tk' t' F' N'; (try k_sweep))
  | (refine' csub2 ?k1 ?k2 ?k3 ?k4 ?_; (case k1 => k_asm); (case k2 => k_asm); (case k3 => k_asm); (case k4 => first | exact crlf_fits (by assumption) | exact some_fits (by assumption)); k_whole; intro h' tk' t' F' N'; (try k_sweep)))))
theorem quotedata_c (w : World) (mean : ExcName → Option Value) (mg mb : Str → Option Value) (news : List (Addr × Obj)) (x : Str) (t : Tok) :
    CbClaim PySem.Challenge.rw_pg0022_02.row.prog w (Mine.hd.heap_39 w.params) Mine.hd.view_39 (looseW Mine.hd.view_39 [Str.ofString "_twin_re_1", Str.ofString "_twin_re_2"]) mean mg mb 48 news [] (x.length ≤ 400000) [.str x t] (fun t => .str (quoteS x) t) := by
  w_top off
  k_with_none
  k_fill
  dsimp only [CbClaim, CbLists, CbRet]; intros; rename_i hret
  refine wpAny_call ?_
  k_dflt cell_enter
  k_steps
  all_goals cb_end hret
end Mine
end
section
open PySem PySem.W PyProof.Rows
set_option maxRecDepth 100000
set_option maxHeartbeats 8000000
namespace Mine
open Pa
theorem parse257_c (w : World) (mean : ExcName → Option Value) (mg mb : Str → Option Value) (news : List (Addr × Obj)) (x : Str) (t : Tok) :
    CbClaim PySem.Challenge.rw_pg0022_02.row.prog w (Mine.hd.heap_39 w.params) Mine.hd.view_39 (looseW Mine.hd.view_39 [Str.ofString "_twin_re_1", Str.ofString "_twin_re_2"]) mean mg mb 80 news [] (x.length ≤ 400000 ∧ (Txt.slice x none (some 3) != Str.ofString "257") = false) [.str x t] (fun t => .str (parseS x) t) := by
  w_top off
  k_with_none
  k_fill
  dsimp only [CbClaim, CbLists, CbRet]; intros; rename_i hpre _ _ hret
  obtain ⟨hlen, h257⟩ := hpre
  k_with "exec While Compare cons nil" => k_while (fun (_ : List Int) (dir : Str) (i : Int) => PInv x dir i ∧ 5 ≤ i ∧ dir.length ≤ i.toNat) (fun (_ : List Int) (dir : Str) (i : Int) => x.length - i.toNat) "dirname" "i"
  k_with "state" => first
    | exact ⟨pinv_start _, by decide, by decide⟩
    | exact ⟨pinv_two (by assumption) (by assumption) (by assumption) (by assumption) (by assumption), by omega, by omega⟩
    | exact ⟨pinv_plain (by assumption) (by assumption) (by assumption), by omega, by omega⟩
  refine wpAny_call ?_
  k_dflt cell_enter
  k_steps
  all_goals first
    | (refine cb_retS hret ?e1 ?e2 ?e3; (case e2 => k_asm); (case e3 => k_asm); (case e1 => first
      | exact parse_none (by assumption)
      | exact pinv_last (by assumption) (by assumption) (by assumption) (by assumption) (by assumption)
      | exact pinv_stop (by assumption) (by assumption) (by assumption) (by assumption) (by assumption) (by assumption)
      | exact pinv_exit (by assumption) (by assumption) (by first | assumption | omega)))
    | (exfalso; simp_all; done)
    | trace_state
end Mine
end
section
open PySem PySem.W PyProof.Rows
set_option maxRecDepth 100000
set_option maxHeartbeats 8000000
namespace Mine
open Rx Pa L2 Tk
theorem pre_read {x : Str} (h : x.length ≤ 20008) : (Str.ofString "257 \"" ++ Txt.replace x (Str.ofString ".") (Str.ofString "\"")).length ≤ 400000 ∧ (Txt.slice (Str.ofString "257 \"" ++ Txt.replace x (Str.ofString ".") (Str.ofString "\"")) none (some 3) != Str.ofString "257") = false := by
  refine ⟨?_, head_257 _⟩
  have h1 := replace_le x (Str.ofString ".") (Str.ofString "\"")
  have h2 : (x.length + 1) * (Str.ofString "\"").length ≤ (x.length + 1) * 1 := Nat.mul_le_mul_left _ one_len
  have h3 := head_len
  rw [Str.length_append]
  omega
theorem read_start {x : Str} (h : x.length ≤ 20008) : x = iter readS ([] : List Int).length x ∧ x.length ≤ 20008 := ⟨rfl, h⟩
theorem read_turn {x text : Str} {pre : List Int} {n : Int} (hS : Shp 4000 x) (h : text = iter readS pre.length x) :
    Txt.replace (parseS (Str.ofString "257 \"" ++ Txt.replace text (Str.ofString ".") (Str.ofString "\""))) (Str.ofString "\"") (Str.ofString ".") = iter readS (pre ++ [n]).length x ∧
    (Txt.replace (parseS (Str.ofString "257 \"" ++ Txt.replace text (Str.ofString ".") (Str.ofString "\""))) (Str.ofString "\"") (Str.ofString ".")).length ≤ 20008 := by
  have e : Txt.replace (parseS (Str.ofString "257 \"" ++ Txt.replace text (Str.ofString ".") (Str.ofString "\""))) (Str.ofString "\"") (Str.ofString ".") = iter readS (pre ++ [n]).length x := by
    rw [List.length_append]
    show readS text = readS (iter readS pre.length x)
    rw [h]
  rw [e]
  exact ⟨rfl, shp_len (shp_reads hS _)⟩
theorem sent_start {x : Str} (h : x.length ≤ 20008) : x = iter quoteS ([] : List Int).length x ∧ x.length ≤ 20408 := ⟨rfl, by omega⟩
theorem sent_turn {x text : Str} {pre : List Int} {n : Int} (hS : Shp 4000 x) (hk : pre.length < 64) (h : text = iter quoteS pre.length x) :
    quoteS text = iter quoteS (pre ++ [n]).length x ∧ (quoteS text).length ≤ 20408 := by
  have e : quoteS text = iter quoteS (pre ++ [n]).length x := by
    rw [List.length_append]
    show quoteS text = quoteS (iter quoteS pre.length x)
    rw [h]
  rw [e]
  refine ⟨rfl, ?_⟩
  have h1 := shp_len (shp_quotes hS (pre ++ [n]).length)
  have h2 : (pre ++ [n]).length = pre.length + 1 := by simp
  omega
theorem range_len {k : Int} {c : Str} {f : Str → Str} {x : Str} (h : c = iter f (rangeKs 0 (k - 0).toNat).length x) : c = iter f k.toNat x := by
  rw [rangeKs_length, Int.sub_zero] at h
  exact h

theorem use_parse {w : World} {mean : ExcName → Option Value} {mg mb : Str → Option Value} {news : List (Addr × Obj)} {x : Str} {t₀ : Tok}
    {dp un : Nat} {gd : Option (List Code)} {cn : Str} {cs : Scope} {a : Addr} {ccd : Value} {cl : List (Str × Addr)} {outer : List Env} {A₀ : Around} {base h₀ : Heap} {L : Addr} {m : Str → Option Value} {s : Shared} {Q E : Value → Shared → Prop}
    (B : Below A₀ base outer h₀) (F : Fr h₀ L s.heap m) (X : (Mine.hd.heap_39 w.params).In h₀) (N : News h₀ L s.heap news) (T : Top Mine.hd.view_39 (looseW Mine.hd.view_39 [Str.ofString "_twin_re_1", Str.ofString "_twin_re_2"]) mean mg mb h₀) (hk : cs.kind = .function)
    (hp : x.length ≤ 400000 ∧ (Txt.slice x none (some 3) != Str.ofString "257") = false) (hd : dp + 1 < recursionLimit) (hu : un + 8 < cLine)
    (ret : ∀ (t : Tok) (h' : Heap) (tk' : Nat), s.toks ≤ tk' → (parseS x).length ≤ 400000 → Fr h₀ L h' m → News h₀ L h' news → Q (.str (parseS x) t) { s with heap := h', toks := tk' }) :
    wpAny (model PySem.Challenge.rw_pg0022_02.row.prog w) (ktrTop dp un gd cn cs L a ccd cl outer) (call (.ref 80) [.str x t₀]) Q E s :=
  use_c (parse257_c w mean mg mb news x t₀) B F X N T hk hp hd hu (fun t h' tk' hs F' N' => ret t h' tk' hs (Nat.le_trans (parse_len x) hp.1) F' N')

local macro_rules | `(tactic| walk_at "call ref") => `(tactic| (k_here; k_dflt (first
  | (refine' use_parse ?k1 ?k2 ?k3 ?k4 ?k5 ?kK ?kp ?kd ?ku ?kR; (case k1 => k_asm); (case k2 => k_asm); (case k3 => k_asm); (case k4 => k_asm); (case k5 => k_asm); (case kK => first | exact rfl | assumption); (case kp => exact pre_read (by assumption)); (case kd => ktr_room); (case ku => ktr_units); k_whole; intro t9 h9 tk9 hs9 hl9 F9 N9; (try dsimp only at hs9); (try dsimp only); (try k_fold))
  | (refine' use_c (quotedata_c _ _ _ _ _ _ _) ?k1 ?k2 ?k3 ?k4 ?k5 ?kK ?kp ?kd ?ku ?kR; (case k1 => k_asm); (case k2 => k_asm); (case k3 => k_asm); (case k4 => k_asm); (case k5 => k_asm); (case kK => first | exact rfl | assumption); (case kp => omega); (case kd => ktr_room); (case ku => ktr_units); k_whole; intro t9 h9 tk9 hs9 F9 N9; (try dsimp only at hs9); (try dsimp only); (try k_fold)))))
local macro_rules | `(tactic| walk_at "call builtin:str.replace") => `(tactic| (k_here; k_dflt (refine' replaceP 1 ?kz ?ku ?kv ?kw ?ky ?kb ?_; (case kz => first | exact one_len | exact dot_len); (case ku => first | omega | (dsimp only; omega)); (case kv => first | omega | (dsimp only; omega)); (case kw => first | omega | (dsimp only; omega)); (case ky => decide +kernel); (case kb => omega)); intro t9 k9 hk9 hl9; (try dsimp only at hk9)))
local macro_rules | `(tactic| walk_at "binaryOp Add str str") => `(tactic| (k_here; (with_reducible show wpAny _ _ (binaryOp Operator.Add (Value.str (PySem.Str.ofString "257 \"") _) (Value.str _ _)) _ _ _); k_dflt (refine' addP 5 head_len ?kb ?_; (case kb => omega)); intro t9 k9 hk9 he9 hl9; (try dsimp only at hk9)))

theorem law_read_c (w : World) (mean : ExcName → Option Value) (mg mb : Str → Option Value) (x : Str) (t : Tok) (k : Int) (u : Tok) :
    CC PySem.Challenge.rw_pg0022_02.row.prog w (Mine.hd.heap_39 w.params) Mine.hd.view_39 (looseW Mine.hd.view_39 [Str.ofString "_twin_re_1", Str.ofString "_twin_re_2"]) mean mg mb 87 (Shp 4000 x ∧ 0 ≤ k ∧ k ≤ 64) [.str x t, .int k u] (fun t => .str (iter readS k.toNat x) t) := by
  w_top off
  k_with_none
  k_fill
  dsimp only [CC]; intros; rename_i hpre _ _ hret
  obtain ⟨hS, hk0, hk1⟩ := hpre
  have hlen : x.length ≤ 20008 := shp_len hS
  k_with "pyIter ref" => k_state (fun (pre : List Int) (text : Str) => text = iter readS pre.length x ∧ text.length ≤ 20008) "text"
  k_with "state" => first | exact read_start (by assumption) | exact read_turn (by assumption) (by assumption)
  refine wpAny_call ?_
  k_dflt cell_enter
  k_steps
  all_goals (refine cb_retS hret ?e1 ?e2 ?e3; (case e2 => k_asm); (case e3 => k_asm); (case e1 => exact range_len (by assumption)))

theorem law_sent_c (w : World) (mean : ExcName → Option Value) (mg mb : Str → Option Value) (x : Str) (t : Tok) (k : Int) (u : Tok) :
    CC PySem.Challenge.rw_pg0022_02.row.prog w (Mine.hd.heap_39 w.params) Mine.hd.view_39 (looseW Mine.hd.view_39 [Str.ofString "_twin_re_1", Str.ofString "_twin_re_2"]) mean mg mb 94 (Shp 4000 x ∧ 0 ≤ k ∧ k ≤ 64) [.str x t, .int k u] (fun t => .str (iter quoteS k.toNat x) t) := by
  w_top off
  k_with_none
  k_fill
  dsimp only [CC]; intros; rename_i hpre _ _ hret
  obtain ⟨hS, hk0, hk1⟩ := hpre
  have hlen : x.length ≤ 20008 := shp_len hS
  k_with "pyIter ref" => k_state (fun (pre : List Int) (text : Str) => text = iter quoteS pre.length x ∧ text.length ≤ 20408) "text"
  k_with "state" => first | exact sent_start (by assumption) | exact sent_turn (by assumption) (by omega) (by assumption)
  refine wpAny_call ?_
  k_dflt cell_enter
  k_steps
  all_goals (refine cb_retS hret ?e1 ?e2 ?e3; (case e2 => k_asm); (case e3 => k_asm); (case e1 => exact range_len (by assumption)))
end Mine
end
section
open PySem PySem.W PyProof.Rows
set_option maxRecDepth 100000
set_option maxHeartbeats 8000000
namespace Mine
open Rx Pa L2 Tk
/-- a contract of a call that gives a new list of ints -/
abbrev CL (prog : Program) (w : World) (K : Frag) (p : Program) (loose : List Str) (mean : ExcName → Option Value) (mg mb : Str → Option Value) (f : Addr) (pre : Prop) (vs : List Value) (ns : List Int) : Prop :=
  ∀ (news : List (Addr × Obj)) (dp un : Nat) (gd : Option (List Code)) (cn : Str) (cs : Scope) (a : Addr) (ccd : Value) (cl : List (Str × Addr)) (outer : List Env) (A₀ : Around) (base h₀ : Heap) (L : Addr) (m : Str → Option Value) (s : Shared) (Q E : Value → Shared → Prop),
    Below A₀ base outer h₀ → Fr h₀ L s.heap m → K.In h₀ → News h₀ L s.heap news → Top p loose mean mg mb h₀ → cs.kind = .function →
    pre → dp + 8 < recursionLimit → un + 64 < cLine → (∀ (D : Addr) (ws : List Value) (c : Nat) (h' : Heap) (tk' : Nat), Fr h₀ L h' m → News h₀ L h' ((D, listOf ws.toArray c) :: news) → (∀ p ∈ news, p.1 < D) → IntsAre ws ns → Q (.ref D) { s with heap := h', toks := tk' }) →
      wpAny (model prog w) (ktrTop dp un gd cn cs L a ccd cl outer) (call (.ref f) vs) Q E s

theorem law_figures_c (w : World) (mean : ExcName → Option Value) (mg mb : Str → Option Value) (N : Int) (t : Tok) :
    CL PySem.Challenge.rw_pg0022_02.row.prog w (Mine.hd.heap_39 w.params) Mine.hd.view_39 (looseW Mine.hd.view_39 [Str.ofString "_twin_re_1", Str.ofString "_twin_re_2"]) mean mg mb 101 (1 ≤ N ∧ N ≤ 8) [.int N t] (figsOf N) := by
  w_top off
  k_with_none
  k_fill
  dsimp only [CL]; intros; rename_i hpre _ _ hret
  obtain ⟨hN1, hN8⟩ := hpre
  have hNil : IntsAre [] [] := .nil
  (k_with "exec While Compare cons nil" => k_while (fun (_ : List Int) (number : Int) (figures : List Int) => FInv N number figures ∧ 0 ≤ number ∧ number ≤ 8 ∧ figures.length ≤ 3) (fun (_ : List Int) (number : Int) (figures : List Int) => number.toNat) "number" "figures")
  (k_with "state" => (first | with_reducible exact f_start (by assumption) (by assumption) | with_reducible exact f_turn (by assumption) (by assumption)))
  (k_with "measure" => exact f_less (by assumption) (by assumption))
  refine wpAny_call ?_
  k_dflt cell_enter
  k_steps
  exact hret _ _ _ _ _ (by assumption) (by assumption) (by assumption) (by rw [← f_end (by assumption) (by assumption)]; assumption)
end Mine
end
section
open PySem PySem.W PyProof.Rows
set_option maxRecDepth 100000
set_option maxHeartbeats 8000000
namespace Mine
open Rx Pa L2 Tk
def rowV (k N s : Int) : Int := if k.fmod 4 = 0 then 0 else if k.fmod 4 = 1 then 2 + (k.fdiv 4).fmod 15 else (-2 * N).fmod s + s * (1 + (k.fdiv 4).fmod 2)
theorem law_row_c (w : World) (mean : ExcName → Option Value) (mg mb : Str → Option Value) (k N s : Int) (t u v : Tok) :
    CC PySem.Challenge.rw_pg0022_02.row.prog w (Mine.hd.heap_39 w.params) Mine.hd.view_39 (looseW Mine.hd.view_39 [Str.ofString "_twin_re_1", Str.ofString "_twin_re_2"]) mean mg mb 108 (1 ≤ N ∧ N ≤ 8 ∧ 1 ≤ s ∧ s ≤ 8) [.int k t, .int N u, .int s v] (fun t => .int (rowV k N s) t) := by
  w_top off
  k_with_none
  k_fill
  dsimp only [CC]; intros; rename_i hpre _ _ hret
  obtain ⟨hN1, hN8, hs1, hs8⟩ := hpre
  refine wpAny_call ?_
  k_dflt cell_enter
  k_steps
  all_goals (refine cb_retI hret ?e1 ?e2 ?e3; (case e2 => k_asm); (case e3 => k_asm); (case e1 => (unfold rowV; (repeat' split) <;> first | rfl | omega)))

theorem row_bnd {rs : List Int} {k : Int} (h : ∀ r ∈ rs, RowOk r) (hk : k ∈ rs) : 0 ≤ k ∧ k ≤ 40 := by
  have := h k hk
  unfold RowOk at this
  omega
theorem row_at {rs : List Int} {k : Int} (h : ∀ r ∈ rs, RowOk r) (hk : k ∈ rs) : RowOk k := h k hk
theorem wT_go {S row s : Int} {k : Nat} {pre rs post : List Int} {text : Str} (hs : s = 2 ^ k) (h : TW (1 + S.fmod 8) s pre text) (hr : ∀ r ∈ rs, RowOk r) (e : rs = pre ++ row :: post) (hl : rs.length = 4) (h0 : row ≠ 0) (hm : (row + 2 * (1 + S.fmod 8)).fmod s = 0) :
    TW (1 + S.fmod 8) s (pre ++ [row]) (text ++ dotsS ((row + 2 * (1 + S.fmod 8)).fdiv s) ++ Str.ofString "\x0d\n") ∧ (text ++ dotsS ((row + 2 * (1 + S.fmod 8)).fdiv s) ++ Str.ofString "\x0d\n").length ≤ 300 := by
  have h1 := fmod_lo S (n := 8) (by decide)
  have h2 := fmod_hi S (n := 8) (by decide)
  subst hs
  exact w_go h (by omega) (by omega) hr e (by omega) h0 hm
theorem wT_go0 {S row s : Int} {k : Nat} {pre rs post : List Int} {text : Str} (hs : s = 2 ^ k) (h : TW (1 + S.fmod 8) s pre text) (hr : ∀ r ∈ rs, RowOk r) (e : rs = pre ++ row :: post) (hl : rs.length = 4) (h0 : row = 0) :
    TW (1 + S.fmod 8) s (pre ++ [row]) (text ++ dotsS ((0 : Int).fdiv s) ++ Str.ofString "\x0d\n") ∧ (text ++ dotsS ((0 : Int).fdiv s) ++ Str.ofString "\x0d\n").length ≤ 300 := by
  have h1 := fmod_lo S (n := 8) (by decide)
  have h2 := fmod_hi S (n := 8) (by decide)
  subst h0 hs
  exact w_go0 h (by omega) hr e (by omega)
theorem wT_bnd {row S s : Int} {k : Nat} (hs : s = 2 ^ k) (hr : RowOk row) : 0 ≤ (row + 2 * (1 + S.fmod 8)).fdiv s ∧ (row + 2 * (1 + S.fmod 8)).fdiv s ≤ 1000 := by
  subst hs
  exact w_bnd hr
theorem wT_bnd0 {s : Int} : 0 ≤ (0 : Int).fdiv s ∧ (0 : Int).fdiv s ≤ 1000 := by simp
theorem wT_stop {S row s : Int} {k : Nat} {pre rs post : List Int} {text : Str} (hs : s = 2 ^ k) (h : TW (1 + S.fmod 8) s pre text) (hr : ∀ r ∈ rs, RowOk r) (e : rs = pre ++ row :: post) (h0 : row ≠ 0) (hm : (row + 2 * (1 + S.fmod 8)).fmod s ≠ 0) :
    text ++ dotsS ((row + 2 * (1 + S.fmod 8)).fdiv s) = toldS (1 + S.fmod 8).toNat s.toNat rs := by
  have h1 := fmod_lo S (n := 8) (by decide)
  subst hs
  rw [pow_toNat]
  exact w_stop h (by omega) hr e h0 hm
theorem wT_end {S s : Int} {rs : List Int} {text : Str} (h : TW (1 + S.fmod 8) s rs text) : text = toldS (1 + S.fmod 8).toNat s.toNat rs := t_end h
theorem wT_mod0 {s : Int} (h : (0 : Int).fmod s ≠ 0) : False := h (by simp)
local macro_rules | `(tactic| walk_at "binaryOp Mult str int") => `(tactic| (k_here; (with_reducible show wpAny _ _ (binaryOp Operator.Mult (Value.str (PySem.Str.ofString ".") _) (Value.int _ _)) _ _ _); k_dflt (refine' mulP ?k1 ?k2 ?_; (case k1 => first | exact wT_bnd0.1 | exact (wT_bnd (by assumption) (row_at (by assumption) (by assumption))).1); (case k2 => first | exact Int.le_trans wT_bnd0.2 (by decide) | exact Int.le_trans (wT_bnd (by assumption) (row_at (by assumption) (by assumption))).2 (by decide))); intro t9 k9 hk9 hl9 hm9; (try dsimp only at hk9); (try dsimp only)))
local macro_rules | `(tactic| walk_at "inplaceOp Add str str") => `(tactic| (k_here; k_dflt (first | (refine' iaddP 300 100000 ?k1 ?k2 ?k3 ?_; (case k1 => assumption); (case k2 => assumption); (case k3 => decide)) | (refine' iaddP 100300 2 ?k1 ?k2 ?k3 ?_; (case k1 => assumption); (case k2 => exact crlf_len); (case k3 => decide))); intro t9 k9 hk9 hl9; (try dsimp only at hk9); (try dsimp only)))

theorem news_l {h₀ h : Heap} {L : Addr} {x : Addr × Obj} {news own : List (Addr × Obj)} (N : News h₀ L h (x :: (news ++ own))) : News h₀ L h (x :: news) := fun p hp => N p (by
  rcases List.mem_cons.mp hp with rfl | hp
  · exact .head _
  · exact .tail _ (List.mem_append_left _ hp))
theorem law_told_c (w : World) (mean : ExcName → Option Value) (mg mb : Str → Option Value) (l : Addr) (vs : List Value) (c : Nat) (rs : List Int) (S sh : Int) (k : Nat) (t u : Tok)
    (hsk : sh = 2 ^ k) (hs1 : 1 ≤ sh) (hs8 : sh ≤ 8) (hvs : IntsAre vs rs) (hr : ∀ r ∈ rs, RowOk r) (hl : rs.length = 4)
    (news : List (Addr × Obj)) (dp un : Nat) (gd : Option (List Code)) (cn : Str) (cs : Scope) (a : Addr) (ccd : Value) (cl : List (Str × Addr)) (outer : List Env) (A₀ : Around) (base h₀ : Heap) (L : Addr) (m : Str → Option Value) (s : Shared) (Q E : Value → Shared → Prop) :
    Below A₀ base outer h₀ → Fr h₀ L s.heap m → (Mine.hd.heap_39 w.params).In h₀ → News h₀ L s.heap ((l, listOf vs.toArray c) :: news) → Top Mine.hd.view_39 (looseW Mine.hd.view_39 [Str.ofString "_twin_re_1", Str.ofString "_twin_re_2"]) mean mg mb h₀ → cs.kind = .function →
    dp + 8 < recursionLimit → un + 64 < cLine → (∀ (t : Tok) (h' : Heap) (tk' : Nat), Fr h₀ L h' m → News h₀ L h' ((l, listOf vs.toArray c) :: news) → Q (.str (toldS (1 + S.fmod 8).toNat sh.toNat rs) t) { s with heap := h', toks := tk' }) →
      wpAny (model PySem.Challenge.rw_pg0022_02.row.prog w) (ktrTop dp un gd cn cs L a ccd cl outer) (call (.ref 115) [.ref l, .int (1 + S.fmod 8) t, .int sh u]) Q E s := by
  w_top off
  k_with_none
  k_fill
  intros; rename_i hret
  (k_with "pyIter ref" => (k_state (fun (pre : List Int) (text : Str) => TW (1 + S.fmod 8) sh pre text ∧ text.length ≤ 300) "text"))
  (k_with "state" => (first | with_reducible exact w_start | with_reducible exact wT_go (by assumption) (by assumption) (by assumption) (by assumption) (by assumption) (by assumption) (by assumption) | with_reducible exact wT_go0 (by assumption) (by assumption) (by assumption) (by assumption) (by assumption) (by assumption)))
  refine wpAny_call ?_
  k_dflt cell_enter
  k_steps
  all_goals first
    | (exfalso; exact wT_mod0 (by assumption))
    | (refine cb_retS hret ?e1 ?e2 ?e3; (case e2 => k_asm); (case e3 => first | k_asm | exact news_l (by assumption)); (case e1 => first | exact wT_end (by assumption) | exact wT_stop (by assumption) (by assumption) (by assumption) (by assumption) (by assumption) (by assumption)))
    | trace_state
end Mine
end
section
open PySem PySem.W PyProof.Rows
set_option maxRecDepth 100000
set_option maxHeartbeats 8000000
namespace Mine
open Rx Pa L2 Tk
section
variable {w : World} {mean : ExcName → Option Value} {mg mb : Str → Option Value} {news : List (Addr × Obj)}
    {dp un : Nat} {gd : Option (List Code)} {cn : Str} {cs : Scope} {a : Addr} {ccd : Value} {cl : List (Str × Addr)} {outer : List Env} {A₀ : Around} {base h₀ : Heap} {L : Addr} {m : Str → Option Value} {s : Shared} {Q E : Value → Shared → Prop}
theorem s_lo (S : Int) : 1 ≤ 1 + S.fmod 8 ∧ 1 + S.fmod 8 ≤ 8 := by
  have h1 := fmod_lo S (n := 8) (by decide)
  have h2 := fmod_hi S (n := 8) (by decide)
  omega
theorem use_fig {S : Int} {t : Tok}
    (B : Below A₀ base outer h₀) (F : Fr h₀ L s.heap m) (X : (Mine.hd.heap_39 w.params).In h₀) (N : News h₀ L s.heap news) (T : Top Mine.hd.view_39 (looseW Mine.hd.view_39 [Str.ofString "_twin_re_1", Str.ofString "_twin_re_2"]) mean mg mb h₀) (hk : cs.kind = .function)
    (hd : dp + 8 < recursionLimit) (hu : un + 64 < cLine)
    (ret : ∀ (D : Addr) (ws : List Value) (c : Nat) (h' : Heap) (tk' : Nat) (figs : List Int), figs = figsOf (1 + S.fmod 8) → 1 ≤ figs.length → figs.length ≤ 3 → Fr h₀ L h' m → News h₀ L h' ((D, listOf ws.toArray c) :: news) → (∀ p ∈ news, p.1 < D) → IntsAre ws figs → Q (.ref D) { s with heap := h', toks := tk' }) :
    wpAny (model PySem.Challenge.rw_pg0022_02.row.prog w) (ktrTop dp un gd cn cs L a ccd cl outer) (call (.ref 101) [.int (1 + S.fmod 8) t]) Q E s :=
  law_figures_c w mean mg mb (1 + S.fmod 8) t _ _ _ _ _ _ _ _ _ _ _ _ _ _ _ _ _ _ B F X N T hk (s_lo S) hd hu (fun D ws c h' tk' F' N' l1 hI => ret D ws c h' tk' _ rfl (figs_pos (by have := (s_lo S).1; omega) (s_lo S).2) figs_len F' N' l1 hI)
theorem use_row {S sh k : Int} {n : Nat} {t u v : Tok} (hsh : sh = 2 ^ n) (hs1 : 2 ≤ sh) (hs8 : sh ≤ 8)
    (B : Below A₀ base outer h₀) (F : Fr h₀ L s.heap m) (X : (Mine.hd.heap_39 w.params).In h₀) (N : News h₀ L s.heap news) (T : Top Mine.hd.view_39 (looseW Mine.hd.view_39 [Str.ofString "_twin_re_1", Str.ofString "_twin_re_2"]) mean mg mb h₀) (hk : cs.kind = .function)
    (hd : dp + 8 < recursionLimit) (hu : un + 64 < cLine)
    (ret : ∀ (t : Tok) (h' : Heap) (tk' : Nat), Fr h₀ L h' m → News h₀ L h' news → Q (.int (rowV k (1 + S.fmod 8) sh) t) { s with heap := h', toks := tk' }) :
    wpAny (model PySem.Challenge.rw_pg0022_02.row.prog w) (ktrTop dp un gd cn cs L a ccd cl outer) (call (.ref 108) [.int k t, .int (1 + S.fmod 8) u, .int sh v]) Q E s :=
  law_row_c w mean mg mb k (1 + S.fmod 8) sh t u v _ _ _ _ _ _ _ _ _ _ _ _ _ _ _ _ _ _ B F X N T hk ⟨(s_lo S).1, (s_lo S).2, by omega, hs8⟩ hd hu ret
theorem use_told {l : Addr} {vs : List Value} {c : Nat} {rs : List Int} {S sh : Int} {k : Nat} {t u : Tok} (hsk : sh = 2 ^ k) (hs1 : 2 ≤ sh) (hs8 : sh ≤ 8) (hvs : IntsAre vs rs) (hr : ∀ r ∈ rs, RowOk r) (hl : rs.length = 4) (hm : (l, listOf vs.toArray c) ∈ news)
    (B : Below A₀ base outer h₀) (F : Fr h₀ L s.heap m) (X : (Mine.hd.heap_39 w.params).In h₀) (N : News h₀ L s.heap news) (T : Top Mine.hd.view_39 (looseW Mine.hd.view_39 [Str.ofString "_twin_re_1", Str.ofString "_twin_re_2"]) mean mg mb h₀) (hk : cs.kind = .function)
    (hd : dp + 8 < recursionLimit) (hu : un + 64 < cLine)
    (ret : ∀ (t : Tok) (h' : Heap) (tk' : Nat) (told : Str), told = toldS (1 + S.fmod 8).toNat (2 ^ k) rs → Fr h₀ L h' m → News h₀ L h' news → Q (.str told t) { s with heap := h', toks := tk' }) :
    wpAny (model PySem.Challenge.rw_pg0022_02.row.prog w) (ktrTop dp un gd cn cs L a ccd cl outer) (call (.ref 115) [.ref l, .int (1 + S.fmod 8) t, .int sh u]) Q E s :=
  law_told_c w mean mg mb l vs c rs S sh k t u hsk (by omega) hs8 hvs hr hl news _ _ _ _ _ _ _ _ _ _ _ _ _ _ _ _ _ B F X (fun p hp => by
    rcases List.mem_cons.mp hp with rfl | hp
    · exact N _ hm
    · exact N _ hp) T hk hd hu (fun t h' tk' F' N' => ret t h' tk' _ (by rw [hsk, pow_toNat]) F' (fun p hp => N' p (.tail _ hp)))
theorem powA {prog : Program} {A : Around} {n : Nat} {t u : Tok} (h1 : 1 ≤ n) (h3 : n ≤ 3)
    (h : ∀ (sh : Int) (t' : Tok) (k : Nat), sh = 2 ^ n → 2 ≤ sh → sh ≤ 8 → Q (.int sh t') { s with toks := k }) : wpAny (model prog w) A (binaryOp .Pow (.int 2 t) (.int (n : Int) u)) Q E s := by
  refine pow_int (by omega) ?_ ?_
  · have : n = 1 ∨ n = 2 ∨ n = 3 := by omega
    rcases this with rfl | rfl | rfl <;> decide +kernel
  · refine h _ _ _ (by rw [Int.toNat_natCast]) ?_ ?_
    all_goals
      have : n = 1 ∨ n = 2 ∨ n = 3 := by omega
      rcases this with rfl | rfl | rfl <;> decide
end
theorem rowV_ok {S sh : Int} {n : Nat} {cs : List Int} (hsh : sh = 2 ^ n) (h1 : 1 ≤ n) (h3 : n ≤ 3) : ∀ k ∈ cs, RowOk (rowV k (1 + S.fmod 8) sh) := by
  intro k _
  subst hsh
  exact row_ok h1 h3
theorem take4 (l : List Int) : (l.take 4).length ≤ 4 := by rw [List.length_take]; omega
theorem elts_len {rs : List Int} {en : Str} (h : ∀ r ∈ rs, RowOk r) (hen : EndOk en) : ∀ k ∈ rs, (dotsS k ++ en).length ≤ 42 := by
  intro k hk
  rw [Str.length_append, dotsS_len]
  have h1 := endOk_len hen
  have h2 := row_bnd h hk
  omega
theorem strs3 {a b c : Str} {t u v : Tok} : StrsAre [.str a t, .str b u, .str c v] [a, b, c] := .cons _ _ (.cons _ _ (.cons _ _ .nil))
section
variable {prog : Program} {w : World} {A : Around} {E : Value → Shared → Prop} {s : Shared} {Q : Value → Shared → Prop}
theorem fig_item {value slice : PySem.Expr} {l : Addr} {vs : List Value} {figs : List Int} {k : Int} {u : Tok} {p : Nat} (hl : s.heap.IsList l vs.toArray) (hi : IntsAre vs figs) (hk : k = 0 + (p : Int)) (hp : p < figs.length) (h3 : figs.length ≤ 3)
    (hs : subscripted slice false (.ref l) (.int k u) = operate [.ref l, .int k u] (getItem (.ref l) (.int k u)))
    (h : ∀ (t' : Tok) (f : Int), f = figs.getD p 0 → Q (.int f t') s) : wpAny (model prog w) A (subscriptTail value slice (.ref l) (.int k u)) Q E s := by
  rw [Int.zero_add] at hk
  subst hk
  obtain ⟨t', e⟩ := hi.get p (figs.getD p 0) (by rw [List.getD_eq_getElem?_getD, List.getElem?_eq_getElem hp]; rfl)
  exact tail_any hl.typeIs slot_list_getitem.lookup (wpAny_getItem_list hl (by omega) (by omega) (x := .int _ t') (by simpa using e) (h t' _ rfl)) hs
end
section
variable {w : World} {mean : ExcName → Option Value} {mg mb : Str → Option Value} {news : List (Addr × Obj)}
    {dp un : Nat} {gd : Option (List Code)} {cn : Str} {cs : Scope} {a : Addr} {ccd : Value} {cl : List (Str × Addr)} {outer : List Env} {A₀ : Around} {base h₀ : Heap} {L : Addr} {m : Str → Option Value} {s : Shared} {Q E : Value → Shared → Prop}
/-- the asked reading: sent twice as often as is left, then read -/
theorem use_read2 {figs : List Int} {told text y : Str} {left k : Int} {p : Nat} {t u : Tok} (hM : MInv figs told text left p) (hy : y = iter quoteS (2 * left).toNat text) (hp : p < figs.length) (h3 : figs.length ≤ 3) (hk : k = (figs.length : Int) - (p : Int))
    (B : Below A₀ base outer h₀) (F : Fr h₀ L s.heap m) (X : (Mine.hd.heap_39 w.params).In h₀) (N : News h₀ L s.heap news) (T : Top Mine.hd.view_39 (looseW Mine.hd.view_39 [Str.ofString "_twin_re_1", Str.ofString "_twin_re_2"]) mean mg mb h₀) (hkd : cs.kind = .function)
    (hd : dp + 8 < recursionLimit) (hu : un + 64 < cLine)
    (ret : ∀ (t : Tok) (h' : Heap) (tk' : Nat), Fr h₀ L h' m → News h₀ L h' news → Q (.str told t) { s with heap := h', toks := tk' }) :
    wpAny (model PySem.Challenge.rw_pg0022_02.row.prog w) (ktrTop dp un gd cn cs L a ccd cl outer) (call (.ref 87) [.str y t, .int k u]) Q E s := by
  subst hy
  refine law_read_c w mean mg mb _ t k u _ _ _ _ _ _ _ _ _ _ _ _ _ _ _ _ _ _ B F X N T hkd (pre_read2 hM (by omega) (by omega) (by omega)) hd hu (fun t' h' tk' F' N' => ?_)
  have e : k.toNat = figs.length - p := by omega
  rw [e, m_told hM hp]
  exact ret t' h' tk' F' N'
theorem use_read1 {figs : List Int} {told text : Str} {left : Int} {p : Nat} {t u : Tok} (hM : MInv figs told text left p) (hp : p < figs.length) (h3 : figs.length ≤ 3)
    (B : Below A₀ base outer h₀) (F : Fr h₀ L s.heap m) (X : (Mine.hd.heap_39 w.params).In h₀) (N : News h₀ L s.heap news) (T : Top Mine.hd.view_39 (looseW Mine.hd.view_39 [Str.ofString "_twin_re_1", Str.ofString "_twin_re_2"]) mean mg mb h₀) (hkd : cs.kind = .function)
    (hd : dp + 8 < recursionLimit) (hu : un + 64 < cLine)
    (ret : ∀ (t : Tok) (h' : Heap) (tk' : Nat) (y : Str), y = iter readS 1 text → Fr h₀ L h' m → News h₀ L h' news → Q (.str y t) { s with heap := h', toks := tk' }) :
    wpAny (model PySem.Challenge.rw_pg0022_02.row.prog w) (ktrTop dp un gd cn cs L a ccd cl outer) (call (.ref 87) [.str text t, .int 1 u]) Q E s :=
  law_read_c w mean mg mb _ t 1 u _ _ _ _ _ _ _ _ _ _ _ _ _ _ _ _ _ _ B F X N T hkd (pre_read1 hM (by omega)) hd hu (fun t' h' tk' F' N' => ret t' h' tk' _ rfl F' N')
theorem use_sent1 {figs : List Int} {told text : Str} {left : Int} {p : Nat} {t u : Tok} (hM : MInv figs told text left p) (hp : p < figs.length) (h3 : figs.length ≤ 3)
    (B : Below A₀ base outer h₀) (F : Fr h₀ L s.heap m) (X : (Mine.hd.heap_39 w.params).In h₀) (N : News h₀ L s.heap news) (T : Top Mine.hd.view_39 (looseW Mine.hd.view_39 [Str.ofString "_twin_re_1", Str.ofString "_twin_re_2"]) mean mg mb h₀) (hkd : cs.kind = .function)
    (hd : dp + 8 < recursionLimit) (hu : un + 64 < cLine)
    (ret : ∀ (t : Tok) (h' : Heap) (tk' : Nat) (y : Str), y = iter quoteS (2 * left).toNat text → Fr h₀ L h' m → News h₀ L h' news → Q (.str y t) { s with heap := h', toks := tk' }) :
    wpAny (model PySem.Challenge.rw_pg0022_02.row.prog w) (ktrTop dp un gd cn cs L a ccd cl outer) (call (.ref 94) [.str text t, .int (2 * left) u]) Q E s :=
  law_sent_c w mean mg mb _ t (2 * left) u _ _ _ _ _ _ _ _ _ _ _ _ _ _ _ _ _ _ B F X N T hkd (pre_sent hM (by omega)) hd hu (fun t' h' tk' F' N' => ret t' h' tk' _ rfl F' N')
theorem use_sent2 {figs : List Int} {told text x : Str} {left f : Int} {p : Nat} {t u : Tok} (hM : MInv figs told text left p) (hx : x = iter readS 1 text) (hf : f = figs.getD p 0) (hp : p < figs.length) (h3 : figs.length ≤ 3)
    (B : Below A₀ base outer h₀) (F : Fr h₀ L s.heap m) (X : (Mine.hd.heap_39 w.params).In h₀) (N : News h₀ L s.heap news) (T : Top Mine.hd.view_39 (looseW Mine.hd.view_39 [Str.ofString "_twin_re_1", Str.ofString "_twin_re_2"]) mean mg mb h₀) (hkd : cs.kind = .function)
    (hd : dp + 8 < recursionLimit) (hu : un + 64 < cLine)
    (ret : ∀ (t : Tok) (h' : Heap) (tk' : Nat) (y : Str), y = iter quoteS f.toNat x → Fr h₀ L h' m → News h₀ L h' news → Q (.str y t) { s with heap := h', toks := tk' }) :
    wpAny (model PySem.Challenge.rw_pg0022_02.row.prog w) (ktrTop dp un gd cn cs L a ccd cl outer) (call (.ref 94) [.str x t, .int f u]) Q E s := by
  subst hx
  exact law_sent_c w mean mg mb _ t f u _ _ _ _ _ _ _ _ _ _ _ _ _ _ _ _ _ _ B F X N T hkd (pre_sent2 hM (by omega) hp hf) hd hu (fun t' h' tk' F' N' => ret t' h' tk' _ rfl F' N')
end
theorem mm_turn {figs pre : List Int} {told text x y : Str} {left f f' k : Int} (hM : MInv figs told text left pre.length) (hp : pre.length < ((figs.length : Int) - 0).toNat) (hf' : f' = figs.getD pre.length 0) (hy : y = iter quoteS f.toNat x) (hf : f = figs.getD pre.length 0) (hx : x = iter readS 1 text) :
    MInv figs told y ((left - f').fdiv 2) (pre ++ [k]).length ∧ 0 ≤ (left - f').fdiv 2 ∧ (left - f').fdiv 2 ≤ 8 := by
  have h := m_turn hM (by omega)
  rw [List.length_append]
  subst hx hy hf hf'
  exact ⟨h, m_left h⟩
section
variable {prog : Program} {w : World} {A : Around} {E : Value → Shared → Prop} {s : Shared} {Q : Value → Shared → Prop}
theorem ne_same {x : Str} {t u : Tok} (h : Q (.bool false) s) : wpAny (model prog w) A (compareOp .NotEq (.str x t) (.str x u)) Q E s :=
  PyProof.Rows.ne_str (by rw [bne_self_eq_false]; exact h)
theorem eq_end {figs : List Int} {told text : Str} {left : Int} {q : Nat} {t u : Tok} (hM : MInv figs told text left q) (hq : q = figs.length) (h1 : 1 ≤ figs.length) (h : Q (.bool true) s) : wpAny (model prog w) A (compareOp .Eq (.str text t) (.str told u)) Q E s := by
  subst hq
  have := m_end hM h1
  subst this
  exact PyProof.Rows.eq_str (by rw [beq_self_eq_true]; exact h)
end
theorem mm_lt {p n : Nat} {m : Nat} (h : p < n) (e : n = m) : p < m := e ▸ h
theorem mm_start {S : Int} {figs rs : List Int} {en told : Str} (hf : figs = figsOf (1 + S.fmod 8)) (hr : ∀ r ∈ rs, RowOk r) (hl : rs.length = 4) (hen : EndOk en) (ht : told = toldS (1 + S.fmod 8).toNat (2 ^ figs.length) rs) :
    MInv figs told (glue (rs.map fun k => dotsS k ++ en)) (1 + S.fmod 8) ([] : List Int).length ∧ 0 ≤ 1 + S.fmod 8 ∧ 1 + S.fmod 8 ≤ 8 := by
  have := s_lo S
  refine ⟨?_, by omega, by omega⟩
  rw [ht]
  exact m_start (by omega) (by omega) hf hr (by omega) hen
end Mine
end
section
open PySem PySem.W PyProof.Rows
set_option maxRecDepth 100000
set_option maxHeartbeats 8000000
namespace Mine
open Rx Pa L2 Tk
local macro_rules | `(tactic| walk_at "binaryOp Add ref ref") => `(tactic| (k_here; (with_reducible show wpAny _ _ (binaryOp _ (Value.ref _) (Value.ref _)) _ _ _); k_dflt (refine' add_abs 4 ?F ?N ?a ?b ?i ?j ?e ?n ?_; (case F => k_asm); (case N => k_asm); (case a => kmk_list); (case b => kmk_list); (case i => l_ints); (case j => l_ints); (case e => omega); (case n => decide)); intro D' ws' h' cs hcl F' N' l1 hI'; (try k_lt l1); (try k_sweep); (try dsimp only)))
local macro_rules | `(tactic| walk_at "call builtin:sum") => `(tactic| (k_here; (with_reducible show wpAny _ _ (call (Value.builtin "sum") [Value.ref _]) _ _ _); (with_unfolding_all refine' sumA ?k0 ?k1 ?k2 ?k3 ?k4 ?_; (case k0 => with_unfolding_all rfl); (case k1 => k_asm); (case k2 => k_asm); (case k3 => is_list); (case k4 => first | l_ints | l_intsW); k_whole); intro S h' tk' t' F' N'; (try k_sweep); (try dsimp only)))
local macro_rules | `(tactic| walk_at "KPfDone") => `(tactic| ((first | (refine kpf_len 4 (take4 _) ?_) | (refine kpf_abs (R := RowOk) (rowV_ok (by assumption) (by assumption) (by assumption)) ?_)); walk_at "KPfDone"))
local macro_rules | `(tactic| walk_at "subscriptTail") => `(tactic| (k_here; (with_reducible show wpAny _ _ (subscriptTail (PySem.Expr.List _ _) (PySem.Expr.Slice _ _ none _) (Value.ref _) (Value.ref _)) _ _ _); walk_at "last subscriptTail"))
local macro_rules | `(tactic| walk_at "subscriptTail Name Slice ref ref") => `(tactic| (k_here; (with_reducible show wpAny _ _ (subscriptTail _ (PySem.Expr.Slice (some _) none none _) (Value.ref _) (Value.ref _)) _ _ _); k_dflt (refine' slice_tail (s := ⟨_, _, _, _, _⟩) ?F ?N ?l ?i ?k0 ?k1 ?kn ?s ?t ?_; (case F => k_asm); (case N => k_asm); (case l => kmk_list); (case i => l_ints); (case k0 => omega); (case k1 => first | omega | (simp only [List.length_cons, List.length_nil]; omega)); (case kn => decide); (case s => with_unfolding_all rfl); (case t => kmk_pure)); intro D' ws' h' ms' hm' F' N' l1 hI'; (try simp only [List.length_cons, List.length_nil] at hm'); (try k_lt l1); (try k_sweep); (try dsimp only)))
local macro_rules | `(tactic| walk_at "call builtin:len") => `(tactic| (k_here; (with_reducible show wpAny _ _ (call (Value.builtin "len") [Value.ref _]) _ _ _); k_dflt (refine' lenA ?k1 ?k2 ?k3 ?_; (case k1 => is_list); (case k2 => first | assumption | l_ints); (case k3 => omega); k_whole); intro t9 k9 hk9; (try dsimp only at hk9); (try dsimp only)))
local macro_rules | `(tactic| walk_at "subscriptTail") => `(tactic| (k_here; (with_reducible show wpAny _ _ (subscriptTail (PySem.Expr.List _ _) _ (Value.ref _) (Value.int _ _)) _ _ _); k_dflt (refine' item_end ?k1 ?k2 ?k3 ?_; (case k1 => exact News.isList (by k_asm) (by k_mem)); (case k2 => exact strs3); (case k3 => with_unfolding_all rfl)); intro t9 en hen9 hel9; (try dsimp only)))
local macro_rules | `(tactic| walk_at "CompSrc") => `(tactic| (k_here; (with_reducible show LCg.CompSrc _ _ _ _ _ _ _ (Expr.BinOp (Expr.BinOp (Expr.Constant (Const.str _) _ _) _ _ _) _ _ _) _ _ _ _ _ _); k_dflt (refine LCg.CompSrc.ledger (by rfl) (by k_asm) (by k_asm) (by k_mem) (by kcf_size) ?_; intro g'; (refine' kct_rows (by assumption) (by first | assumption | l_ints) (fun k' t' I' oI' C' oC' D' m' ys' h' tk' E' hk' hC' hx' F' N' off' ne' => ?_) ?_); (all_goals (try ((show KPfMark → _); intro hMark'))); kcf_last)))
local macro_rules | `(tactic| walk_at "CompEnd") => `(tactic| (k_dflt (refine kct_end (by assumption) (by assumption) (by assumption) (by lcg_src))))
local macro_rules | `(tactic| walk_at "binaryOp Mult str int") => `(tactic| (k_here; (with_reducible show wpAny _ _ (binaryOp Operator.Mult (Value.str (PySem.Str.ofString ".") _) (Value.int _ _)) _ _ _); k_dflt (refine' mulP ?k1 ?k2 ?_; (case k1 => exact (row_bnd (by assumption) (by assumption)).1); (case k2 => exact Int.le_trans (row_bnd (by assumption) (by assumption)).2 (by decide))); intro t9 k9 hk9 hl9 hm9; (try dsimp only at hk9); (try dsimp only)))
local macro_rules | `(tactic| walk_at "binaryOp Add str str") => `(tactic| (k_here; (with_reducible show wpAny _ _ (binaryOp Operator.Add (Value.str (dotsS _) _) (Value.str _ _)) _ _ _); k_dflt (refine' addP 100000 ?k1 ?k2 ?_; (case k1 => (have hb9 := row_bnd (by assumption) (by assumption)); omega); (case k2 => omega)); intro t9 k9 hk9 he9 hl9; (try dsimp only at hk9); (try dsimp only)))
local macro_rules | `(tactic| walk_at "call builtin:str.join") => `(tactic| (k_here; (with_reducible show wpAny _ _ (call (Value.builtin "str.join") [Value.str _ _, Value.ref _]) _ _ _); (with_reducible rename CarriedAll _ (List.map _ _) => ktC); k_dflt (refine' joinP 42 ?k1 ktC ?k2 ?k3 ?_; (case k1 => first | assumption | is_list | exact News.isList (by k_asm) (by k_mem)); (case k2 => exact elts_len (by assumption) (by assumption)); (case k3 => omega)); intro t9 k9 hk9; (try dsimp only at hk9); (try dsimp only)))
local macro_rules | `(tactic| walk_at "binaryOp Pow int int") => `(tactic| (k_here; (with_reducible show wpAny _ _ (binaryOp Operator.Pow (Value.int 2 _) (Value.int (Nat.cast (List.length _)) _)) _ _ _); k_dflt (refine' powA ?k1 ?k2 ?_; (case k1 => assumption); (case k2 => assumption)); intro sh t9 k9 hsh hs1 hs8; (try dsimp only)))
local macro_rules | `(tactic| walk_at "call ref") => `(tactic| (k_here; (with_reducible show wpAny _ _ (call (Value.ref 101) _) _ _ _); k_dflt ((refine' use_fig ?k1 ?k2 ?k3 ?k4 ?k5 ?kK ?kd ?ku ?_); (case k1 => k_asm); (case k2 => k_asm); (case k3 => k_asm); (case k4 => k_asm); (case k5 => k_asm); (case kK => first | exact rfl | assumption); (case kd => ktr_room); (case ku => ktr_units); k_whole; intro D' ws' c' h' tk' figs hfig hf1 hf3 F' N' l1 hI'; (try k_lt l1); (try k_sweep); (try dsimp only))))
local macro_rules | `(tactic| walk_at "call ref") => `(tactic| (k_here; (with_reducible show wpAny _ _ (call (Value.ref 108) _) _ _ _); k_dflt ((refine' use_row ?h1 ?h2 ?h3 ?k1 ?k2 ?k3 ?k4 ?k5 ?kK ?kd ?ku ?_); (case h1 => assumption); (case h2 => assumption); (case h3 => assumption); (case k1 => k_asm); (case k2 => k_asm); (case k3 => k_asm); (case k4 => k_asm); (case k5 => k_asm); (case kK => first | exact rfl | assumption); (case kd => ktr_room); (case ku => ktr_units); k_whole; intro t9 h' tk' F' N'; (try k_sweep); (try dsimp only))))
local macro_rules | `(tactic| walk_at "call ref") => `(tactic| (k_here; (with_reducible show wpAny _ _ (call (Value.ref 115) _) _ _ _); k_dflt ((refine' use_told ?h1 ?h2 ?h3 ?h4 ?h5 ?h6 ?h7 ?k1 ?k2 ?k3 ?k4 ?k5 ?kK ?kd ?ku ?_); (case h1 => assumption); (case h2 => assumption); (case h3 => assumption); (case k1 => k_asm); (case k2 => k_asm); (case k3 => k_asm); (case k4 => k_asm); (case h7 => k_mem); (case h4 => first | assumption | l_ints); (case h5 => assumption); (case h6 => omega);  (case k5 => k_asm); (case kK => first | exact rfl | assumption); (case kd => ktr_room); (case ku => ktr_units); k_whole; intro t9 h' tk' told htold F' N'; (try k_sweep); (try dsimp only))))
local macro_rules | `(tactic| walk_at "call ref") => `(tactic| (k_here; (with_reducible show wpAny _ _ (call (Value.ref 94) _) _ _ _); k_dflt (first
  | ((refine' use_sent1 ?hM ?hp ?h3 ?k1 ?k2 ?k3 ?k4 ?k5 ?kK ?kd ?ku ?_); (case hM => assumption); (case hp => first | assumption | omega); (case h3 => assumption); (case k1 => k_asm); (case k2 => k_asm); (case k3 => k_asm); (case k4 => k_asm); (case k5 => k_asm); (case kK => first | exact rfl | assumption); (case kd => ktr_room); (case ku => ktr_units); k_whole; intro t9 h' tk' y9 hy9 F' N'; (try k_sweep); (try dsimp only))
  | ((refine' use_sent2 ?hM ?hx ?hf ?hp ?h3 ?k1 ?k2 ?k3 ?k4 ?k5 ?kK ?kd ?ku ?_); (case hM => assumption); (case hx => assumption); (case hf => assumption); (case hp => first | assumption | omega); (case h3 => assumption); (case k1 => k_asm); (case k2 => k_asm); (case k3 => k_asm); (case k4 => k_asm); (case k5 => k_asm); (case kK => first | exact rfl | assumption); (case kd => ktr_room); (case ku => ktr_units); k_whole; intro t9 h' tk' y9 hy9 F' N'; (try k_sweep); (try dsimp only)))))
local macro_rules | `(tactic| walk_at "call ref") => `(tactic| (k_here; (with_reducible show wpAny _ _ (call (Value.ref 87) _) _ _ _); k_dflt (first
  | ((with_reducible show wpAny _ _ (call (Value.ref 87) [_, Value.int 1 _]) _ _ _); (refine' use_read1 ?hM ?hp ?h3 ?k1 ?k2 ?k3 ?k4 ?k5 ?kK ?kd ?ku ?_); (case hM => assumption); (case hp => first | assumption | omega); (case h3 => assumption); (case k1 => k_asm); (case k2 => k_asm); (case k3 => k_asm); (case k4 => k_asm); (case k5 => k_asm); (case kK => first | exact rfl | assumption); (case kd => ktr_room); (case ku => ktr_units); k_whole; intro t9 h' tk' y9 hy9 F' N'; (try k_sweep); (try dsimp only))
  | ((refine' use_read2 ?hM ?hy ?hp ?h3 ?hk ?k1 ?k2 ?k3 ?k4 ?k5 ?kK ?kd ?ku ?_); (case hM => assumption); (case hy => assumption); (case hp => first | assumption | omega); (case h3 => assumption); (case hk => omega); (case k1 => k_asm); (case k2 => k_asm); (case k3 => k_asm); (case k4 => k_asm); (case k5 => k_asm); (case kK => first | exact rfl | assumption); (case kd => ktr_room); (case ku => ktr_units); k_whole; intro t9 h' tk' F' N'; (try k_sweep); (try dsimp only)))))
local macro_rules | `(tactic| walk_at "compareOp NotEq str str") => `(tactic| (k_here; (with_reducible refine ne_same ?_)))
local macro_rules | `(tactic| walk_at "compareOp Eq str str") => `(tactic| (k_here; k_dflt (refine eq_end (by assumption) (by rw [rangeKs_length]; omega) (by assumption) ?_)))
local macro_rules | `(tactic| walk_at "subscriptTail Name Name ref int") => `(tactic| (k_here; (with_reducible show wpAny _ _ (subscriptTail _ _ (Value.ref _) (Value.int _ _)) _ _ _); k_dflt ((refine' fig_item ?k1 ?k2 ?k3 ?k4 ?k5 ?k6 ?_); (case k1 => exact News.isList (by k_asm) (by k_mem)); (case k2 => assumption); (case k3 => assumption); (case k4 => first | assumption | omega); (case k5 => assumption); (case k6 => with_unfolding_all rfl)); intro t9 f9 hf9; (try dsimp only)))
structure Hold (P : Prop) : Prop where
  out : P
theorem law2 : PySem.Challenge.rw_pg0022_02.Holds := Mine.hd (by
  w_top off
  k_with_none
  (k_with "table" => skip)
  (k_with "pyIter ref" => (k_state_given ["figures", "told"] (fun (figs : List Int) (told : Str) (pre : List Int) (text : Str) (left : Int) => MInv figs told text left pre.length ∧ 0 ≤ left ∧ left ≤ 8) "text" "left"))
  (k_with "state" => (first | with_reducible exact mm_start (by assumption) (by assumption) (by omega) (by assumption) (by assumption) | with_reducible exact mm_turn (by assumption) (by assumption) (by assumption) (by assumption) (by assumption) (by assumption)))
  w_strict (k_go0; (all_goals try k_fold); (repeat' (first | (k_unfold; (try dsimp only)) | walk1 | (dsimp only; walk1) | (leave1; try dsimp only) | fail "no step")); all_goals (first | (k_end; wrow_close) | ((try dsimp only); k_end; wrow_close) | trace_state)))
end Mine
end
theorem PySem.Challenge.cw_pg0022_02_holds : PySem.Challenge.rw_pg0022_02.Holds := by
  exact Mine.law2
