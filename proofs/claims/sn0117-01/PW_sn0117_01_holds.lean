import PyProof.Rows.All
import Wide.All
import OpenK.AllK
import Wide.FinOn
import Lean
import PySem.Challenge.RW_sn0117_01
set_option Elab.async false
set_option maxRecDepth 100000
set_option maxHeartbeats 8000000

section
namespace Mine
open PySem PySem.Sre

def it : Nat → M → M
  | 0, m => m
  | n + 1, m => it n m.step
theorem step_done {m : M} (h : m.outcome.isSome = true) : m.step = m := by unfold M.step; rw [if_pos h]
theorem it_done {m : M} (h : m.outcome.isSome = true) : ∀ n, it n m = m
  | 0 => rfl
  | n + 1 => by rw [it, step_done h]; exact it_done h n
theorem runFor_it : ∀ (n : Nat) (m : M), M.runFor n m = it n m
  | 0, _ => rfl
  | n + 1, m => by
    unfold M.runFor
    by_cases h : m.outcome.isSome = true
    · rw [if_pos h, it_done h]
    · rw [if_neg h, it]; exact runFor_it n _
theorem it_add : ∀ (a b : Nat) (m : M), it (a + b) m = it b (it a m)
  | 0, b, m => by rw [Nat.zero_add]; rfl
  | a + 1, b, m => by rw [Nat.succ_add, it, it]; exact it_add a b _

def codeDot : Array Nat := #[14, 4, 0, 1, 1, 6, 1, 16, 46, 1]
def codeEol : Array Nat := #[14, 9, 4, 1, 2, 16, 10, 16, 13, 0, 7, 7, 16, 13, 16, 10, 15, 18, 5, 16, 10, 15, 13, 11, 16, 13, 5, 5, 0, 16, 10, 1, 15, 2, 0, 1]

/-- the machine at the start of an attempt at q -/
@[reducible] def St (code text : Array Nat) (pc q : Nat) (o : Bool) (seen : Seen) : M :=
  { code, text, lim := text.size, start := q, lastStart := text.size, pc, pos := q, handed := q, outermost := o, marks := #[],
    frames := [{ wait := .nextStart, pc, pos := q, outermost := o }], weight := 1, seen }

def atBol (text : Array Nat) (q : Nat) : Bool := q == 0 || text.getD (q - 1) 0 == 10
def isDot (text : Array Nat) (q : Nat) : Bool := text.getD q 0 == 46

/-- an end: matched from q to e -/
def Hit (m : M) (q e : Nat) : Prop := (∃ s, m.outcome = some s ∧ s = .matched) ∧ m.start = q ∧ m.handed = e
def Miss (m : M) : Prop := ∃ s, m.outcome = some s ∧ s = .failed

theorem dot_at (text : Array Nat) (q : Nat) (o : Bool) (seen : Seen) :
    (St codeDot text 5 q o seen).step = (if atBol text q then { St codeDot text 5 q o ((seen.add 6).add 44) with pc := 7 } else { St codeDot text 5 q o ((seen.add 6).add 44) with answer := some false }) := by
  rfl

theorem dot_lit (text : Array Nat) (q : Nat) (o : Bool) (seen : Seen) :
    ({ St codeDot text 5 q o seen with pc := 7 } : M).step = (if q ≥ text.size then { St codeDot text 5 q o (seen.add 16) with pc := 7, answer := some false } else if isDot text q then { St codeDot text 5 q o (seen.add 16) with pc := 9, pos := q + 1 } else { St codeDot text 5 q o (seen.add 16) with pc := 7, answer := some false }) := by
  by_cases h : q ≥ text.size
  · rw [if_pos h]
    show (if q ≥ text.size then _ else _) = _
    rw [if_pos h]; rfl
  · rw [if_neg h]
    show (if q ≥ text.size then _ else _) = _
    rw [if_neg h]
    show (match (Except.ok (isDot text q, (seen.add 16)) : Except String (Bool × Seen)) with | .error why => _ | .ok (false, seen) => _ | .ok (true, seen) => _) = _
    cases isDot text q <;> rfl

theorem dot_ok (text : Array Nat) (q : Nat) (o : Bool) (seen : Seen) :
    Hit (it 4 ({ St codeDot text 5 q o seen with pc := 9, pos := q + 1 } : M)) q (q + 1) := by
  refine ⟨⟨_, ?_, rfl⟩, ?_, ?_⟩
  · cases o <;> rfl
  · cases o <;> rfl
  · cases o <;> rfl
theorem dot_no (text : Array Nat) (q : Nat) (o : Bool) (seen : Seen) (pc : Nat) :
    it 1 ({ St codeDot text 5 q o seen with pc := pc, answer := some false } : M) = (if q < text.size then St codeDot text 5 (q + 1) false seen else { St codeDot text 5 q o seen with frames := [], weight := 0, answer := some false }) := by
  show (if q < text.size then _ else _) = _
  by_cases h : q < text.size
  · rw [if_pos h, if_pos h]; rfl
  · rw [if_neg h, if_neg h]; rfl
theorem dot_end (text : Array Nat) (q : Nat) (o : Bool) (seen : Seen) : Miss (it 1 ({ St codeDot text 5 q o seen with frames := [], weight := 0, answer := some false } : M)) := ⟨_, rfl, rfl⟩

theorem Hit.it {m : M} {q e : Nat} (h : Hit m q e) (n : Nat) : Hit (Mine.it n m) q e := by
  obtain ⟨⟨s, h1, h2⟩, h3⟩ := h
  rw [it_done (by rw [h1]; rfl)]
  exact ⟨⟨s, h1, h2⟩, h3⟩
theorem Miss.it {m : M} (h : Miss m) (n : Nat) : Miss (Mine.it n m) := by
  obtain ⟨s, h1, h2⟩ := h
  rw [it_done (by rw [h1]; rfl)]
  exact ⟨s, h1, h2⟩

/-- one attempt that fails -/
theorem dot_fail (text : Array Nat) (q : Nat) (o : Bool) (seen : Seen) (hq : q < text.size) (hn : (atBol text q && isDot text q) = false) :
    ∃ n seen', n ≤ 3 ∧ it n (St codeDot text 5 q o seen) = St codeDot text 5 (q + 1) false seen' := by
  cases h1 : atBol text q with
  | false =>
    refine ⟨2, ((seen.add 6).add 44), by decide, ?_⟩
    show it 1 (St codeDot text 5 q o seen).step = _
    rw [dot_at, h1]
    show it 1 _ = _
    rw [if_neg (by decide)]
    exact (dot_no text q o _ 5).trans (if_pos hq)
  | true =>
    rw [h1, Bool.true_and] at hn
    refine ⟨3, ((seen.add 6).add 44).add 16, by decide, ?_⟩
    show it 2 (St codeDot text 5 q o seen).step = _
    rw [dot_at, h1, if_pos rfl]
    show it 1 ({ St codeDot text 5 q o ((seen.add 6).add 44) with pc := 7 } : M).step = _
    rw [dot_lit, if_neg (Nat.not_le.mpr hq), hn, if_neg (by decide)]
    exact (dot_no text q o _ 7).trans (if_pos hq)
theorem dot_past (text : Array Nat) (q : Nat) (o : Bool) (seen : Seen) (hq : ¬ q < text.size) :
    ∃ n, n ≤ 4 ∧ Miss (it n (St codeDot text 5 q o seen)) := by
  cases h1 : atBol text q with
  | false =>
    refine ⟨3, by decide, ?_⟩
    show Miss (it 2 (St codeDot text 5 q o seen).step)
    rw [dot_at, h1, if_neg (by decide), show 2 = 1 + 1 from rfl, it_add]
    rw [(dot_no text q o _ 5).trans (if_neg hq)]
    exact dot_end text q o _
  | true =>
    refine ⟨4, by decide, ?_⟩
    show Miss (it 3 (St codeDot text 5 q o seen).step)
    rw [dot_at, h1, if_pos rfl]
    show Miss (it 2 ({ St codeDot text 5 q o ((seen.add 6).add 44) with pc := 7 } : M).step)
    rw [dot_lit, if_pos (Nat.not_lt.mp hq), show 2 = 1 + 1 from rfl, it_add]
    rw [(dot_no text q o _ 7).trans (if_neg hq)]
    exact dot_end text q o _
theorem dot_hit (text : Array Nat) (q : Nat) (o : Bool) (seen : Seen) (hq : q < text.size) (hn : (atBol text q && isDot text q) = true) :
    Hit (it 6 (St codeDot text 5 q o seen)) q (q + 1) := by
  obtain ⟨h1, h2⟩ := Bool.and_eq_true_iff.mp hn
  show Hit (it 5 (St codeDot text 5 q o seen).step) q (q + 1)
  rw [dot_at, h1, if_pos rfl]
  show Hit (it 4 ({ St codeDot text 5 q o ((seen.add 6).add 44) with pc := 7 } : M).step) q (q + 1)
  rw [dot_lit, if_neg (Nat.not_le.mpr hq), h2, if_pos rfl]
  exact dot_ok text q o _

/-- the run from an attempt at p: the first place from p on at which `ok` holds -/
def firstFrom (ok : Nat → Bool) (size : Nat) : Nat → Nat → Option Nat
  | 0, _ => none
  | n + 1, p => if p < size then (if ok p then some p else firstFrom ok size n (p + 1)) else none

def dotOk (text : Array Nat) (q : Nat) : Bool := atBol text q && isDot text q
theorem dot_run (text : Array Nat) : ∀ (k p : Nat) (o : Bool) (seen : Seen), text.size < p + k → ∃ n, n ≤ 6 * k + 6 ∧
    (match firstFrom (dotOk text) text.size k p with
      | some q => Hit (it n (St codeDot text 5 p o seen)) q (q + 1)
      | none => Miss (it n (St codeDot text 5 p o seen)))
  | 0, p, o, seen, h => by
    obtain ⟨n, h1, h2⟩ := dot_past text p o seen (by omega)
    exact ⟨n, by omega, h2⟩
  | k + 1, p, o, seen, h => by
    unfold firstFrom
    by_cases hp : p < text.size
    · rw [if_pos hp]
      cases hd : dotOk text p with
      | true =>
        rw [if_pos rfl]
        exact ⟨6, by omega, dot_hit text p o seen hp hd⟩
      | false =>
        rw [if_neg (by decide)]
        obtain ⟨n, seen', h1, h2⟩ := dot_fail text p o seen hp hd
        obtain ⟨n', h3, h4⟩ := dot_run text k (p + 1) false seen' (by omega)
        refine ⟨n + n', by omega, ?_⟩
        rw [it_add, h2]
        exact h4
    · rw [if_neg hp]
      obtain ⟨n, h1, h2⟩ := dot_past text p o seen hp
      exact ⟨n, by omega, h2⟩

theorem dot_search (text : Array Nat) (p : Nat) (hp : p ≤ text.size) : ∃ n, n ≤ 6 * (text.size + 2) ∧
    (match firstFrom (dotOk text) text.size (text.size + 1 - p) p with
      | some q => Hit (it n (forSearch codeDot text 0 p text.size false)) q (q + 1)
      | none => Miss (it n (forSearch codeDot text 0 p text.size false))) := by
  by_cases h : p = text.size
  · subst h
    have e : firstFrom (dotOk text) text.size (text.size + 1 - text.size) text.size = none := by
      rw [show text.size + 1 - text.size = 0 + 1 by omega]; unfold firstFrom; rw [if_neg (Nat.lt_irrefl _)]
    rw [e]
    refine ⟨1, by omega, ?_⟩
    have e2 : forSearch codeDot text 0 text.size text.size false = ({ ({ code := codeDot, text, lim := text.size, start := text.size, pc := 5, pos := text.size, handed := text.size, marks := #[], seen := ({} : Seen).add 14 } : M) with answer := some false } : M) := by
      show (if (decide (text.size > text.size) || decide (text.size - text.size < 1)) = true then _ else _) = _
      rw [if_pos (by simp)]; rfl
    rw [e2]
    exact ⟨_, rfl, rfl⟩
  · obtain ⟨n, h1, h2⟩ := dot_run text (text.size + 1 - p) p true (({} : Seen).add 14) (by omega)
    refine ⟨n, by omega, ?_⟩
    have e2 : forSearch codeDot text 0 p text.size false = St codeDot text 5 p true (({} : Seen).add 14) := by
      show (if (decide (p > text.size) || decide (text.size - p < 1)) = true then _ else _) = _
      rw [if_neg (by simp; omega)]; rfl
    rw [e2]
    exact h2
end Mine
end

section
namespace Mine
open PySem PySem.Sre

def E (text : Array Nat) (q pc pos hd : Nat) (out : Bool) (fr : List Sre.Frame) (wt : Nat) (ans : Option Bool) (seen : Seen) : M :=
  { code := codeEol, text, lim := text.size, start := q, lastStart := text.size, pc, pos, handed := hd, outermost := out, marks := #[], frames := fr, weight := wt, seen, answer := ans }
def fS (q : Nat) (o : Bool) : Sre.Frame := { wait := .nextStart, pc := 10, pos := q, outermost := o }
def fB (a q : Nat) (o : Bool) : Sre.Frame := { wait := .nextBranch, pc := a, pos := q, outermost := o }
def fL (q : Nat) (o : Bool) : Sre.Frame := { wait := .lookNot, pc := 26, pos := q, outermost := o }
section
variable (text : Array Nat) (q pos hd : Nat) (out o : Bool) (fr : List Sre.Frame) (wt : Nat) (seen : Seen)
theorem E_lit12 : (E text q 12 pos hd out fr wt none seen).step = (if pos ≥ text.size then E text q 12 pos hd out fr wt (some false) (seen.add 16) else if text.getD pos 0 == 13 then E text q 14 (pos + 1) hd out fr wt none (seen.add 16) else E text q 12 pos hd out fr wt (some false) (seen.add 16)) := by
  by_cases h : pos ≥ text.size
  · rw [if_pos h]
    show (if pos ≥ text.size then _ else _) = _
    rw [if_pos h]; rfl
  · rw [if_neg h]
    show (if pos ≥ text.size then _ else _) = _
    rw [if_neg h]
    show (match (Except.ok (text.getD pos 0 == 13, (seen.add 16)) : Except String (Bool × Seen)) with | .error why => _ | .ok (false, seen) => _ | .ok (true, seen) => _) = _
    cases (text.getD pos 0 == 13) <;> rfl
theorem E_lit14 : (E text q 14 pos hd out fr wt none seen).step = (if pos ≥ text.size then E text q 14 pos hd out fr wt (some false) (seen.add 16) else if text.getD pos 0 == 10 then E text q 16 (pos + 1) hd out fr wt none (seen.add 16) else E text q 14 pos hd out fr wt (some false) (seen.add 16)) := by
  by_cases h : pos ≥ text.size
  · rw [if_pos h]
    show (if pos ≥ text.size then _ else _) = _
    rw [if_pos h]; rfl
  · rw [if_neg h]
    show (if pos ≥ text.size then _ else _) = _
    rw [if_neg h]
    show (match (Except.ok (text.getD pos 0 == 10, (seen.add 16)) : Except String (Bool × Seen)) with | .error why => _ | .ok (false, seen) => _ | .ok (true, seen) => _) = _
    cases (text.getD pos 0 == 10) <;> rfl
theorem E_lit19 : (E text q 19 pos hd out fr wt none seen).step = (if pos ≥ text.size then E text q 19 pos hd out fr wt (some false) (seen.add 16) else if text.getD pos 0 == 10 then E text q 21 (pos + 1) hd out fr wt none (seen.add 16) else E text q 19 pos hd out fr wt (some false) (seen.add 16)) := by
  by_cases h : pos ≥ text.size
  · rw [if_pos h]
    show (if pos ≥ text.size then _ else _) = _
    rw [if_pos h]; rfl
  · rw [if_neg h]
    show (if pos ≥ text.size then _ else _) = _
    rw [if_neg h]
    show (match (Except.ok (text.getD pos 0 == 10, (seen.add 16)) : Except String (Bool × Seen)) with | .error why => _ | .ok (false, seen) => _ | .ok (true, seen) => _) = _
    cases (text.getD pos 0 == 10) <;> rfl
theorem E_lit24 : (E text q 24 pos hd out fr wt none seen).step = (if pos ≥ text.size then E text q 24 pos hd out fr wt (some false) (seen.add 16) else if text.getD pos 0 == 13 then E text q 26 (pos + 1) hd out fr wt none (seen.add 16) else E text q 24 pos hd out fr wt (some false) (seen.add 16)) := by
  by_cases h : pos ≥ text.size
  · rw [if_pos h]
    show (if pos ≥ text.size then _ else _) = _
    rw [if_pos h]; rfl
  · rw [if_neg h]
    show (if pos ≥ text.size then _ else _) = _
    rw [if_neg h]
    show (match (Except.ok (text.getD pos 0 == 13, (seen.add 16)) : Except String (Bool × Seen)) with | .error why => _ | .ok (false, seen) => _ | .ok (true, seen) => _) = _
    cases (text.getD pos 0 == 13) <;> rfl
theorem E_lit29 : (E text q 29 pos hd out fr wt none seen).step = (if pos ≥ text.size then E text q 29 pos hd out fr wt (some false) (seen.add 16) else if text.getD pos 0 == 10 then E text q 31 (pos + 1) hd out fr wt none (seen.add 16) else E text q 29 pos hd out fr wt (some false) (seen.add 16)) := by
  by_cases h : pos ≥ text.size
  · rw [if_pos h]
    show (if pos ≥ text.size then _ else _) = _
    rw [if_pos h]; rfl
  · rw [if_neg h]
    show (if pos ≥ text.size then _ else _) = _
    rw [if_neg h]
    show (match (Except.ok (text.getD pos 0 == 10, (seen.add 16)) : Except String (Bool × Seen)) with | .error why => _ | .ok (false, seen) => _ | .ok (true, seen) => _) = _
    cases (text.getD pos 0 == 10) <;> rfl
theorem E_jump16 : (E text q 16 pos hd out fr wt none seen).step = E text q 35 pos hd out fr wt none (seen.add 15) := rfl
theorem E_jump21 : (E text q 21 pos hd out fr wt none seen).step = E text q 35 pos hd out fr wt none (seen.add 15) := rfl
theorem E_jump32 : (E text q 32 pos hd out fr wt none seen).step = E text q 35 pos hd out fr wt none (seen.add 15) := rfl
theorem E_branch : (E text q 10 q q o [fS q o] 1 none seen).step = E text q 12 q q o [fB 11 q o, fS q o] 2 none (seen.add 7) := rfl
theorem E_next1 (pc : Nat) : (E text q pc pos hd out [fB 11 q o, fS q o] 2 (some false) seen).step = E text q 19 q q o [fB 18 q o, fS q o] 2 none seen := rfl
theorem E_next2 (pc : Nat) : (E text q pc pos hd out [fB 18 q o, fS q o] 2 (some false) seen).step = E text q 24 q q o [fB 23 q o, fS q o] 2 none seen := rfl
theorem E_look : (E text q 26 pos hd o [fB 23 q o, fS q o] 2 none seen).step = E text q 29 pos pos false [fL pos o, fB 23 q o, fS q o] 3 none (seen.add 5) := rfl
theorem E_lookNo (pc p : Nat) : (E text q pc p hd out [fL pos o, fB 23 q o, fS q o] 3 (some false) seen).step = E text q 32 pos hd o [fB 23 q o, fS q o] 2 none seen := rfl
theorem E_ok (a : Nat) : Hit (it 4 (E text q 35 pos hd o [fB a q o, fS q o] 2 none seen)) q pos := by
  refine ⟨⟨_, ?_, rfl⟩, ?_, ?_⟩
  · cases o <;> rfl
  · cases o <;> rfl
  · cases o <;> rfl
end

def eolEnd (text : Array Nat) (q : Nat) : Nat := if text.getD q 0 == 13 && (decide (q + 1 < text.size) && text.getD (q + 1) 0 == 10) then q + 2 else q + 1
def isEol (text : Array Nat) (q : Nat) : Bool := text.getD q 0 == 10 || text.getD q 0 == 13

theorem it_succ {n : Nat} {m : M} : it (n + 1) m = it n m.step := rfl
theorem E_hit (text : Array Nat) (q : Nat) (o : Bool) (seen : Seen) (hq : q < text.size) (he : isEol text q = true) :
    ∃ n, n ≤ 20 ∧ Hit (it n (E text q 10 q q o [fS q o] 1 none seen)) q (eolEnd text q) := by
  have hq' : ¬ q ≥ text.size := Nat.not_le.mpr hq
  unfold eolEnd
  cases h13 : (text.getD q 0 == 13) with
  | true =>
    have h10 : (text.getD q 0 == 10) = false := by rw [beq_iff_eq.mp h13]; rfl
    by_cases hn : q + 1 < text.size ∧ (text.getD (q + 1) 0 == 10) = true
    · rw [if_pos (by rw [decide_eq_true hn.1, hn.2]; rfl)]
      refine ⟨8, by decide, ?_⟩
      rw [it_succ, E_branch, it_succ, E_lit12, if_neg hq', if_pos h13, it_succ, E_lit14, if_neg (Nat.not_le.mpr hn.1), if_pos hn.2, it_succ, E_jump16]
      exact E_ok ..
    · rw [if_neg (by intro h; rw [Bool.true_and, Bool.and_eq_true, decide_eq_true_eq] at h; exact hn h)]
      have hl : ∀ (fr : List Sre.Frame) (wt hd : Nat) (out : Bool) (seen : Seen), (E text q 14 (q + 1) hd out fr wt none seen).step = E text q 14 (q + 1) hd out fr wt (some false) (seen.add 16) := by
        intro fr wt hd out seen
        rw [E_lit14]
        by_cases h1 : q + 1 ≥ text.size
        · rw [if_pos h1]
        · rw [if_neg h1, if_neg fun h => hn ⟨Nat.not_le.mp h1, h⟩]
      have hl2 : ∀ (fr : List Sre.Frame) (wt hd : Nat) (out : Bool) (seen : Seen), (E text q 29 (q + 1) hd out fr wt none seen).step = E text q 29 (q + 1) hd out fr wt (some false) (seen.add 16) := by
        intro fr wt hd out seen
        rw [E_lit29]
        by_cases h1 : q + 1 ≥ text.size
        · rw [if_pos h1]
        · rw [if_neg h1, if_neg fun h => hn ⟨Nat.not_le.mp h1, h⟩]
      refine ⟨15, by decide, ?_⟩
      rw [it_succ, E_branch, it_succ, E_lit12, if_neg hq', if_pos h13, it_succ, hl, it_succ, E_next1, it_succ, E_lit19, if_neg hq', if_neg (by rw [h10]; decide), it_succ, E_next2, it_succ, E_lit24, if_neg hq', if_pos h13, it_succ, E_look, it_succ, hl2, it_succ, E_lookNo, it_succ, E_jump32]
      exact E_ok ..
  | false =>
    have h10 : (text.getD q 0 == 10) = true := by unfold isEol at he; rw [h13, Bool.or_false] at he; exact he
    rw [if_neg (by simp)]
    refine ⟨9, by decide, ?_⟩
    rw [it_succ, E_branch, it_succ, E_lit12, if_neg hq', if_neg (by rw [h13]; decide), it_succ, E_next1, it_succ, E_lit19, if_neg hq', if_pos h10, it_succ, E_jump21]
    exact E_ok ..

theorem eol_inSet (c : Nat) (seen : Seen) : ∃ seen', inSet codeEol c 36 5 true seen = .ok (c == 10 || c == 13, seen') := by
  have e : inSet codeEol c 36 5 true seen = (if (c == 10) = true then .ok (true, seen.add 16) else if (c == 13) = true then .ok (true, (seen.add 16).add 16) else .ok (false, ((seen.add 16).add 16).add 0)) := rfl
  rw [e]
  cases (c == 10) with
  | true => exact ⟨_, rfl⟩
  | false => cases (c == 13) <;> exact ⟨_, rfl⟩
theorem eol_admitted {m : M} {text : Array Nat} (hc : m.code = codeEol) (ht : m.text = text) (hl : m.lim = text.size) : ∀ (k s : Nat) (seen : Seen),
    ∃ seen', m.admitted k s seen = .ok (firstFrom (isEol text) text.size k s, seen')
  | 0, s, seen => ⟨seen, rfl⟩
  | k + 1, s, seen => by
    unfold M.admitted firstFrom
    rw [hl]
    by_cases h : s < text.size
    · rw [if_neg (Nat.not_le.mpr h), if_pos h, hc, ht]
      obtain ⟨seen', e⟩ := eol_inSet (text.getD s 0) seen
      have e' : inSet codeEol (text.getD s 0) codeEol.size 5 true seen = _ := e
      rw [e']
      unfold isEol
      cases (text.getD s 0 == 10 || text.getD s 0 == 13) with
      | true => exact ⟨seen', rfl⟩
      | false => exact eol_admitted hc ht hl k (s + 1) seen'
    · rw [if_pos (Nat.not_lt.mp h), if_neg h]; exact ⟨seen, rfl⟩

theorem firstFrom_ok {ok : Nat → Bool} {size : Nat} : ∀ {k p q : Nat}, firstFrom ok size k p = some q → p ≤ q ∧ q < size ∧ ok q = true ∧ ∀ j, p ≤ j → j < q → ok j = false
  | 0, _, _, h => by cases h
  | k + 1, p, q, h => by
    unfold firstFrom at h
    by_cases hp : p < size
    · rw [if_pos hp] at h
      cases ho : ok p with
      | true =>
        rw [ho, if_pos rfl] at h
        cases h
        exact ⟨Nat.le_refl _, hp, ho, fun j h1 h2 => by omega⟩
      | false =>
        rw [ho, if_neg (by decide)] at h
        obtain ⟨h1, h2, h3, h4⟩ := firstFrom_ok h
        refine ⟨by omega, h2, h3, fun j h5 h6 => ?_⟩
        by_cases hj : j = p
        · subst hj; exact ho
        · exact h4 j (by omega) h6
    · rw [if_neg hp] at h; cases h
theorem firstFrom_none {ok : Nat → Bool} {size : Nat} : ∀ {k p : Nat}, size ≤ p + k → firstFrom ok size k p = none → ∀ j, p ≤ j → j < size → ok j = false
  | 0, p, hs, _, j, h1, h2 => by omega
  | k + 1, p, hs, h, j, h1, h2 => by
    unfold firstFrom at h
    by_cases hp : p < size
    · rw [if_pos hp] at h
      cases ho : ok p with
      | true => rw [ho, if_pos rfl] at h; cases h
      | false =>
        rw [ho, if_neg (by decide)] at h
        by_cases hj : j = p
        · subst hj; exact ho
        · exact firstFrom_none (by omega) h j (by omega) h2
    · omega

theorem eol_search (text : Array Nat) (p : Nat) (hp : p ≤ text.size) : ∃ n, n ≤ 20 ∧
    (match firstFrom (isEol text) text.size (text.size + 1 - p) p with
      | some q => Hit (it n (forSearch codeEol text 0 p text.size false)) q (eolEnd text q)
      | none => Miss (it n (forSearch codeEol text 0 p text.size false))) := by
  by_cases h : p = text.size
  · subst h
    have e : firstFrom (isEol text) text.size (text.size + 1 - text.size) text.size = none := by
      rw [show text.size + 1 - text.size = 0 + 1 by omega]; unfold firstFrom; rw [if_neg (Nat.lt_irrefl _)]
    rw [e]
    refine ⟨1, by omega, ?_⟩
    have e2 : forSearch codeEol text 0 text.size text.size false = ({ ({ code := codeEol, text, lim := text.size, start := text.size, pc := 10, pos := text.size, handed := text.size, marks := #[], seen := ({} : Seen).add 14 } : M) with answer := some false } : M) := by
      show (if (decide (text.size > text.size) || decide (text.size - text.size < 1)) = true then _ else _) = _
      rw [if_pos (by simp)]; rfl
    rw [e2]
    exact ⟨_, rfl, rfl⟩
  · have e2 : forSearch codeEol text 0 p text.size false = ({ code := codeEol, text, lim := text.size, start := p, lastStart := text.size, pc := 10, pos := p, handed := p, marks := #[], seen := ({} : Seen).add 14 } : M).attemptFrom p true := by
      show (if (decide (p > text.size) || decide (text.size - p < 1)) = true then _ else _) = _
      rw [if_neg (by simp; omega)]; rfl
    rw [e2]
    obtain ⟨seen', e3⟩ := eol_admitted (m := ({ code := codeEol, text, lim := text.size, start := p, lastStart := text.size, pc := 10, pos := p, handed := p, marks := #[], seen := ({} : Seen).add 14 } : M)) rfl rfl rfl (text.size + 1 - p) p (({} : Seen).add 14)
    have e4 : ({ code := codeEol, text, lim := text.size, start := p, lastStart := text.size, pc := 10, pos := p, handed := p, marks := #[], seen := ({} : Seen).add 14 } : M).attemptFrom p true =
      (match ({ code := codeEol, text, lim := text.size, start := p, lastStart := text.size, pc := 10, pos := p, handed := p, marks := #[], seen := ({} : Seen).add 14 } : M).admitted (text.size + 1 - p) p (({} : Seen).add 14) with
        | .ok (some s, seen) => E text s 10 s s true [fS s true] 1 none seen
        | .ok (none, seen) => { code := codeEol, text, lim := text.size, start := p, lastStart := text.size, pc := 10, pos := p, handed := p, marks := #[], seen := seen, answer := some false }
        | .error why => M.stick { code := codeEol, text, lim := text.size, start := p, lastStart := text.size, pc := 10, pos := p, handed := p, marks := #[], seen := ({} : Seen).add 14 } why) := rfl
    rw [e4, e3]
    cases hf : firstFrom (isEol text) text.size (text.size + 1 - p) p with
    | none => exact ⟨1, by omega, _, rfl, rfl⟩
    | some q =>
      obtain ⟨_, h2, h3, _⟩ := firstFrom_ok hf
      obtain ⟨n, h4, h5⟩ := E_hit text q true seen' h2 h3
      exact ⟨n, h4, h5⟩
end Mine
end

section
namespace Mine
open PySem PySem.Sre PySem.W PySem.Builtin.Re

abbrev Keep (h h' : Heap) : Prop := ∀ b o, h.get? b = some o → h'.get? b = some o
theorem Keep.refl (h : Heap) : Keep h h := fun _ _ e => e
theorem Keep.trans {h₁ h₂ h₃ : Heap} (a : Keep h₁ h₂) (b : Keep h₂ h₃) : Keep h₁ h₃ := fun x o e => b x o (a x o e)
theorem Keep.push (h : Heap) (o : Obj) : Keep h (h.push o) := fun _ _ e => Heap.get?_push_of_some _ e

section
variable {M : Model} {A : Around} {E : Value → Shared → Prop} {s : Shared}

theorem wp_drive {Q : Sre.M → Shared → Prop} : ∀ (turns : Nat) (m : Sre.M) (n : Nat), 0 < turns → n ≤ 4 * turns → (it n m).outcome.isSome = true → Q (it n m) s → wpAny M A (reDrive turns m) Q E s
  | 0, m, n, h, _, _, _ => absurd h (Nat.lt_irrefl _)
  | k + 1, m, n, _, hn, ho, hq => by
    unfold reDrive
    show wpAny M A (if (Sre.M.runFor reTurnSteps m).outcome.isSome = true then pure (Sre.M.runFor reTurnSteps m) else do rule "sre.turn"; reDrive k (Sre.M.runFor reTurnSteps m)) Q E s
    rw [show Sre.M.runFor reTurnSteps m = it 4 m from runFor_it 4 m]
    by_cases h4 : (it 4 m).outcome.isSome = true
    · rw [if_pos h4]
      refine wpAny_pure ?_
      by_cases hle : n ≤ 4
      · have e : it 4 m = it n m := by
          rw [show 4 = n + (4 - n) by omega, it_add, it_done ho]
        rw [e]; exact hq
      · have e : it n m = it 4 m := by
          rw [show n = 4 + (n - 4) by omega, it_add, it_done h4]
        rw [← e]; exact hq
    · rw [if_neg h4]
      refine wpAny_bind (wpAny_rule ?_)
      have hgt : 4 < n := by
        apply Nat.lt_of_not_le
        intro hle
        apply h4
        rw [show 4 = n + (4 - n) by omega, it_add, it_done ho]; exact ho
      have e : it (n - 4) (it 4 m) = it n m := by
        rw [← it_add, show 4 + (n - 4) = n by omega]
      refine wp_drive k (it 4 m) (n - 4) ?_ (by omega) (by rw [e]; exact ho) (by rw [e]; exact hq)
      omega

theorem wp_rules {l : List Nat} {c : Nat → Bool} {f : Nat → String} {Q : PUnit → Shared → Prop} (hq : Q PUnit.unit s) :
    wpAny M A (forIn l PUnit.unit fun i (_ : PUnit) => if c i = true then do rule (f i); pure (ForInStep.yield PUnit.unit) else pure (ForInStep.yield PUnit.unit)) Q E s := by
  refine wpAny_forIn_list _ (fun _ _ s' => s' = s) Q ?_ ?_ l PUnit.unit rfl
  · rintro x rest b s' rfl
    by_cases h : c x = true
    · rw [if_pos h]; exact wpAny_bind (wpAny_rule (wpAny_pure rfl))
    · rw [if_neg h]; exact wpAny_pure rfl
  · rintro b s' rfl; exact hq

theorem wp_hit {m : Sre.M} {n q e : Nat} {Q : Option Sre.M → Shared → Prop} (hn : n ≤ 2 ^ 60) (h : Hit (it n m) q e) (hq : ∀ m', m'.start = q → m'.handed = e → Q (some m') s) :
    wpAny M A (reRunToEnd m) Q E s := by
  obtain ⟨⟨o, h1, h2⟩, h3, h4⟩ := h
  unfold reRunToEnd
  refine wpAny_bind (wp_drive _ m n (by decide) (Nat.le_trans hn (by decide)) (by rw [h1]; rfl) ?_)
  refine wpAny_bind (wp_rules (c := fun i => (it n m).seen.has i) ?_)
  rw [h1, h2]
  exact wpAny_pure (hq _ h3 h4)
theorem wp_miss {m : Sre.M} {n : Nat} {Q : Option Sre.M → Shared → Prop} (hn : n ≤ 2 ^ 60) (h : Miss (it n m)) (hq : Q none s) :
    wpAny M A (reRunToEnd m) Q E s := by
  obtain ⟨o, h1, h2⟩ := h
  unfold reRunToEnd
  refine wpAny_bind (wp_drive _ m n (by decide) (Nat.le_trans hn (by decide)) (by rw [h1]; rfl) ?_)
  refine wpAny_bind (wp_rules (c := fun i => (it n m).seen.has i) ?_)
  rw [h1, h2]
  exact wpAny_pure hq

/-- a compiled pattern lies at a -/
structure PatAt (h : Heap) (a : Addr) (code : Array Nat) (kind : Nat) : Prop where
  ex : ∃ o fs oc c vs n, h.get? a = some o ∧ o.data = .fields fs ∧ fs.getD 6 .none = .int kind 0 ∧ fs.getD 2 .none = .int 0 0 ∧ fs.getD 5 .none = .ref c ∧ h.get? c = some oc ∧ oc.data = .seq vs n ∧ (vs.map reRawOf).map (·.toNat) = code
theorem PatAt.keeps {h h' : Heap} {a : Addr} {code : Array Nat} {kind : Nat} (p : PatAt h a code kind) (k : Keep h h') : PatAt h' a code kind :=
  let ⟨o, fs, oc, c, vs, n, h1, h2, h3, h4, h5, h6, h7, h8⟩ := p.ex
  ⟨o, fs, oc, c, vs, n, k _ _ h1, h2, h3, h4, h5, k _ _ h6, h7, h8⟩

theorem wp_rawItems {c : Addr} {oc : Obj} {vs : Array Value} {n : Nat} {Q : Array Int → Shared → Prop} (h6 : s.heap.get? c = some oc) (h7 : oc.data = .seq vs n) (hq : Q (vs.map reRawOf) s) :
    wpAny M A (reRawItems (.ref c)) Q E s := by
  unfold reRawItems
  refine wpAny_bind (m := seqItems? (.ref c)) ?_
  unfold seqItems?
  refine wpAny_bind (wpAny_load h6 ?_)
  rw [h7]
  exact wpAny_pure (wpAny_pure hq)

def tgt (a : Addr) (string : Value) (code text : Array Nat) (kind : Nat) : ReTarget := { pattern := .ref a, string, code, text, kind, groups := 0, pos := 0, lim := text.size }

theorem wp_target_of {a : Addr} {code : Array Nat} {kind : Nat} {string : Value} {text : Array Nat} {Q : ReTarget → Shared → Prop} (p : PatAt s.heap a code kind) (hk : kind = 0 ∨ kind = 1)
    (ht : Looks M s.heap (reTextOf string) (text, kind)) (hb : Looks M s.heap (reNoCollectionInside string kind) ())
    (hq : Q (tgt a string code text kind) s) : wpAny M A (reWholeTarget (.ref a) string) Q E s := by
  obtain ⟨o, fs, oc, c, vs, n, h1, h2, h3, h4, h5, h6, h7, h8⟩ := p.ex
  unfold reWholeTarget
  refine wpAny_bind (wpAny_fieldsOf h1 h2 (wpAny_bind (ht.here ?_)))
  have fin : wpAny M A (do reNoCollectionInside string kind
                           pure ({ pattern := .ref a, string, code := (← reRawItems (fs.getD 5 .none)).map (·.toNat), text, kind, groups := reRawNat (fs.getD 2 .none), pos := 0, lim := text.size } : ReTarget)) Q E s := by
    refine wpAny_bind (hb.here (wpAny_bind ?_))
    rw [h5]
    refine wp_rawItems h6 h7 (wpAny_pure ?_)
    rw [h8, h4]; exact hq
  dsimp only
  rw [h3]
  rcases hk with rfl | rfl
  · exact fin
  · exact fin
end
end Mine
end

section
set_option maxRecDepth 100000
namespace Mine
open PySem PySem.Sre PySem.W PySem.Builtin.Re

theorem Keep.update {h₀ h : Heap} {D : Addr} (k : Keep h₀ h) (hD : h₀.get? D = none) (f : Obj → Obj) : Keep h₀ (h.update D f) := by
  intro b o e
  have hb : b ≠ D := by rintro rfl; rw [hD] at e; cases e
  rw [Heap.get?_update_other h f (Ne.symm hb)]
  exact k b o e

def vals (mk : Array Nat → Tok → Value) (ps : List (Array Nat × Tok)) : Array Value := (ps.map fun p => mk p.1 p.2).toArray
theorem vals_push (mk : Array Nat → Tok → Value) (ps : List (Array Nat × Tok)) (x : Array Nat) (t : Tok) : (vals mk ps).push (mk x t) = vals mk (ps ++ [(x, t)]) := by
  simp [vals]
theorem vals_size (mk : Array Nat → Tok → Value) (ps : List (Array Nat × Tok)) : (vals mk ps).size = ps.length := by simp [vals]
def allOf (ps : List (Array Nat × Tok)) : List Nat := ps.flatMap (·.1.toList)
theorem allOf_append (ps qs : List (Array Nat × Tok)) : allOf (ps ++ qs) = allOf ps ++ allOf qs := by simp [allOf]

/-- a made list that holds these -/
def ListOf (h : Heap) (D : Addr) (xs : Array Value) : Prop := ∃ n, h.get? D = some { cls := .type "list", data := .seq xs n }

structure Kd (prog : Program) (w : World) (k : Nat) (mk : Array Nat → Tok → Value) (sv : Value) (text repl : Array Nat) (rt : Tok) : Prop where
  two : k = 0 ∨ k = 1
  txt : ∀ h, Looks (model prog w) h (reTextOf sv) (text, k)
  noc : ∀ h, Looks (model prog w) h (reNoCollectionInside sv k) ()
  slice : ∀ b e (A : Around) (Q : Value → Shared → Prop) (E : Value → Shared → Prop) (s : Shared), Q (mk (text.extract b e) s.toks) { s with toks := s.toks + 1 } → wpAny (model prog w) A (reSlice text k b e) Q E s
  join : ∀ (D : Addr) (ps : List (Array Nat × Tok)) (t₀ : Tok) (A : Around) (Q : Value → Shared → Prop) (E : Value → Shared → Prop) (s : Shared), ListOf s.heap D (vals mk ps) → ps ≠ [] → ps.length + (ps.map (·.1.size)).sum ≤ 1048576 →
    (∀ t k, Q (mk (allOf ps).toArray t) { s with toks := k }) → wpAny (model prog w) A (call (.builtin (if (k == 0) = true then "str.join" else "bytes.join")) [mk #[] t₀, .ref D]) Q E s
  lit : ∀ h, Looks (model prog w) h (reLiteralCannotBeTurned (mk repl rt)) ()
  nn : (mk repl rt != Value.none) = true

def subOut (next : Nat → Option (Nat × Nat)) (text repl : Array Nat) : Nat → Nat → List Nat
  | 0, _ => []
  | f + 1, p => match next p with
    | some (q, e) => (text.extract p q).toList ++ repl.toList ++ subOut next text repl f e
    | none => (text.extract p text.size).toList

theorem loop_quiet (args : Args) : (Code.builtin "re.Pattern.sub.loop" args).quiet = true := Code.quiet_builtin args (by decide +kernel)
theorem loop_plain : plainId "re.Pattern.sub.loop" = true := by decide +kernel
theorem loop_entry : entryFor table "re.Pattern.sub.loop" = some Builtin.«re.Pattern.sub.loop» := entryFor_of_tree (by kernel_rfl)

section
variable {prog : Program} {w : World} {A : Around} {E : Value → Shared → Prop} {R : Result → Shared → Prop}

theorem code_entry {id : String} {args : Args} {b : Builtin} {s : Shared} (hb : entryFor table id = some b) (hp : plainId id = true)
    (h : wpAny (model prog w) A.in1 (b args) (fun fin s' => match fin with | .done f => R (.ok f) s' | .again c' => c'.quiet = true ∧ codeAny (model prog w) A c' R s') (fun e s' => R (.error e) s') s) : codeAny (model prog w) A (.builtin id args) R s := by
  refine codeAny_of_tree ?_
  rw [Around.under_plainId hp]
  show wpAny _ _ (match entryFor table id with | some b => b args | none => unsupported ((withoutEnding? id "#data").getD id)) _ _ s
  rw [hb]; exact h

theorem push_piece {h₀ : Heap} {D : Addr} {mk : Array Nat → Tok → Value} {ps : List (Array Nat × Tok)} {x : Array Nat} {t : Tok} {s : Shared} {Q : Unit → Shared → Prop} (kp : Keep h₀ s.heap) (hD : h₀.get? D = none)
    (hl : ListOf s.heap D (vals mk ps)) (hz : ps.length ≤ 1000000) (hq : ∀ h', Keep h₀ h' → ListOf h' D (vals mk (ps ++ [(x, t)])) → Q () { s with heap := h' }) :
    wpAny (model prog w) A (updateSeq D (·.push (mk x t))) Q E s := by
  obtain ⟨n, hn⟩ := hl
  have e := Heap.get?_update_self (Obj.mapSeq (·.push (mk x t))) hn rfl
  simp only [Obj.mapSeq, vals_push] at e
  refine wpAny_updateSeq hn rfl (hq _ (kp.update hD _) ⟨_, e⟩) (by rw [vals_size]; exact Nat.le_trans hz (by decide)) (by rw [Array.size_push, vals_size]; exact Nat.le_trans (Nat.add_le_add_right hz 1) (by decide))

theorem sub_loop {k : Nat} {mk : Array Nat → Tok → Value} {sv : Value} {text repl code : Array Nat} {rt : Tok} (K : Kd prog w k mk sv text repl rt) {h₀ : Heap} {a D : Addr} (P : PatAt h₀ a code k) (hD : h₀.get? D = none)
    (hts : text.size ≤ 200000) (hr : repl.size ≤ 2) (next : Nat → Option (Nat × Nat))
    (find : ∀ p, p ≤ text.size → match next p with
      | some (q, e) => (p ≤ q ∧ q < e ∧ e ≤ text.size) ∧ ∃ n, n ≤ 2 ^ 60 ∧ Hit (it n (forSearch code text 0 p text.size false)) q e
      | none => ∃ n, n ≤ 2 ^ 60 ∧ Miss (it n (forSearch code text 0 p text.size false))) :
    ∀ (f p : Nat) (s : Shared) (ps : List (Array Nat × Tok)) (cnt : Int), text.size - p < f → p ≤ text.size → Keep h₀ s.heap → ListOf s.heap D (vals mk ps) → ps.length ≤ 2 * p → (ps.map (·.1.size)).sum ≤ 2 * p →
      (∀ h' tk t', Keep h₀ h' → R (.ok (.ret (mk (allOf ps ++ subOut next text repl f p).toArray t'))) { s with heap := h', toks := tk }) →
      codeAny (model prog w) A (.builtin "re.Pattern.sub.loop" ⟨[.ref a, sv, mk repl rt, rawInt 0, rawInt 0, rawInt cnt, rawInt p, rawInt p, .bool false, .ref D, .bool false], []⟩) R s
  | 0, p, s, ps, cnt, hf, _, _, _, _, _, _ => absurd hf (Nat.not_lt_zero _)
  | f + 1, p, s, ps, cnt, hf, hp, kp, hl, hn1, hn2, hR => by
    refine code_entry loop_entry loop_plain ?_
    show wpAny _ _ (reWholeTarget (.ref a) sv >>= _) _ _ s
    refine wpAny_bind (wp_target_of (P.keeps kp) K.two (K.txt _) (K.noc _) ?_)
    rw [if_pos (by decide)]
    refine wpAny_bind ((K.lit _).here ?_)
    rw [if_neg (by simp)]
    have F := find p hp
    have e0 : (Int.toNat (p : Int)) = p := Int.toNat_natCast p
    unfold reNextFound
    simp only [e0]
    unfold subOut at hR
    cases hx : next p with
    | none =>
      rw [hx] at F hR
      obtain ⟨n, h1, h2⟩ := F
      refine wpAny_bind (wp_miss h1 h2 ?_)
      dsimp only at hR ⊢
      -- the end: the last piece, then the join
      have last : ∀ (s₁ : Shared) (ps₁ : List (Array Nat × Tok)), (∃ h tk, s₁ = { s with heap := h, toks := tk }) → Keep h₀ s₁.heap → ListOf s₁.heap D (vals mk ps₁) → allOf ps₁ = allOf ps ++ (text.extract p text.size).toList → ps₁.length + (ps₁.map (·.1.size)).sum ≤ 1048576 →
          wpAny (model prog w) A.in1 (do
            let joiner ← reSlice text k 0 0
            let l ← seqItems? (.ref D)
            if (l.getD #[]).isEmpty = true then (do let text ← (pure joiner : Sem Value); ret text) else (do
              let text ← call (.builtin (if (k == 0) = true then "str.join" else "bytes.join")) [joiner, .ref D]
              ret text)) (fun fin s' => match fin with | .done f => R (.ok f) s' | .again c' => c'.quiet = true ∧ codeAny (model prog w) A c' R s') (fun e s' => R (.error e) s') s₁ := by
        rintro s₁ ps₁ ⟨hh, tk, rfl⟩ kp₁ hl₁ hall hsum
        refine wpAny_bind (K.slice _ _ _ _ _ _ ?_)
        refine wpAny_bind (m := seqItems? (.ref D)) ?_
        obtain ⟨nn, hn⟩ := hl₁
        unfold seqItems?
        refine wpAny_bind (wpAny_load hn (wpAny_pure ?_))
        cases ps₁ with
        | nil =>
          rw [if_pos (by rfl)]
          refine wpAny_bind (wpAny_pure (wpAny_pure ?_))
          have e1 : text.extract 0 0 = (allOf ps ++ (text.extract p text.size).toList).toArray := by rw [← hall]; simp [allOf]
          rw [e1]
          exact hR _ _ _ kp₁
        | cons x r =>
          rw [if_neg (by simp [vals])]
          have e1 : text.extract 0 0 = #[] := by simp
          rw [e1]
          refine wpAny_bind (K.join D (x :: r) _ _ _ _ _ ⟨nn, hn⟩ (by simp) hsum fun t kk => wpAny_pure ?_)
          rw [hall]
          exact hR _ _ _ kp₁
      by_cases hlt : p < text.size
      · rw [if_pos (show p < (tgt a sv code text k).lim from hlt)]
        refine wpAny_bind (K.slice _ _ _ _ _ _ ?_)
        refine wpAny_bind (push_piece kp hD hl (by omega) fun h' kp' hl' => ?_)
        refine last _ (ps ++ [(text.extract p text.size, s.toks)]) ⟨_, _, rfl⟩ kp' hl' (by rw [allOf_append]; simp [allOf]) ?_
        simp only [List.length_append, List.length_singleton, List.map_append, List.map_cons, List.map_nil, List.sum_append, List.sum_cons, List.sum_nil, Array.size_extract]
        omega
      · rw [if_neg (show ¬ p < (tgt a sv code text k).lim from hlt)]
        refine last _ ps ⟨_, _, rfl⟩ kp hl ?_ (by omega)
        have : p = text.size := by omega
        subst this
        simp
    | some qe =>
      obtain ⟨q, e⟩ := qe
      rw [hx] at F hR
      obtain ⟨⟨hpq, hqe, he⟩, n, h1, h2⟩ := F
      refine wpAny_bind (wp_hit h1 h2 fun m' hst hhd => ?_)
      dsimp only at hR ⊢
      rw [hst, hhd]
      simp only [show ((0 : Int) == 0) = true from rfl, if_true]
      have rest : ∀ (s₁ : Shared) (ps₁ : List (Array Nat × Tok)), (∃ h tk, s₁ = { s with heap := h, toks := tk }) → Keep h₀ s₁.heap → ListOf s₁.heap D (vals mk ps₁) → allOf ps₁ = allOf ps ++ (text.extract p q).toList → ps₁.length + 1 ≤ 2 * e → (ps₁.map (·.1.size)).sum + repl.size ≤ 2 * e →
          wpAny (model prog w) A.in1 (do
            let item ← (pure (mk repl rt) : Sem Value)
            if (item != Value.none) = true then (do
              updateSeq D (·.push item)
              again (.builtin "re.Pattern.sub.loop" ⟨[.ref a, sv, mk repl rt, rawInt 0, rawInt 0, rawInt (cnt + 1), rawInt e, rawInt e, .bool (e == q), .ref D, .bool false], []⟩))
            else again (.builtin "re.Pattern.sub.loop" ⟨[.ref a, sv, mk repl rt, rawInt 0, rawInt 0, rawInt (cnt + 1), rawInt e, rawInt e, .bool (e == q), .ref D, .bool false], []⟩))
            (fun fin s' => match fin with | .done f => R (.ok f) s' | .again c' => c'.quiet = true ∧ codeAny (model prog w) A c' R s') (fun e s' => R (.error e) s') s₁ := by
        rintro s₁ ps₁ ⟨hh, tk, rfl⟩ kp₁ hl₁ hall hlen hsum
        refine wpAny_bind (wpAny_pure ?_)
        rw [if_pos K.nn]
        refine wpAny_bind (push_piece kp₁ hD hl₁ (by omega) fun h' kp' hl' => wpAny_pure ⟨loop_quiet _, ?_⟩)
        rw [beq_false_of_ne (by omega : e ≠ q)]
        refine sub_loop K P hD hts hr next find f e _ (ps₁ ++ [(repl, rt)]) _ (by omega) he kp' hl' (by rw [List.length_append, List.length_singleton]; exact hlen) ?_ fun h'' tk' t' kp'' => ?_
        · simp only [List.map_append, List.map_cons, List.map_nil, List.sum_append, List.sum_cons, List.sum_nil]; omega
        · have e2 : allOf (ps₁ ++ [(repl, rt)]) ++ subOut next text repl f e = allOf ps ++ ((text.extract p q).toList ++ repl.toList ++ subOut next text repl f e) := by
            rw [allOf_append, hall]; simp [allOf]
          rw [e2]
          exact hR _ _ _ kp''
      by_cases hlt : p < q
      · rw [if_pos hlt]
        refine wpAny_bind (K.slice _ _ _ _ _ _ ?_)
        refine wpAny_bind (push_piece kp hD hl (by omega) fun h' kp' hl' => ?_)
        refine rest _ (ps ++ [(text.extract p q, s.toks)]) ⟨_, _, rfl⟩ kp' hl' (by rw [allOf_append]; simp [allOf]) ?_ ?_
        · simp only [List.length_append, List.length_singleton]; omega
        · simp only [List.map_append, List.map_cons, List.map_nil, List.sum_append, List.sum_cons, List.sum_nil, Array.size_extract]; omega
      · rw [if_neg hlt]
        refine rest _ ps ⟨_, _, rfl⟩ kp hl ?_ (by omega) (by omega)
        have : p = q := by omega
        subst this
        simp
end
end Mine
end

section
set_option maxRecDepth 100000
namespace Mine
open PySem PySem.Sre PySem.W PySem.Builtin.Re PySem.Builtin.Bytes

def mkS (x : Array Nat) (t : Tok) : Value := .str ⟨x⟩ t
def by8 (x : Array Nat) : Array UInt8 := x.map (·.toUInt8)
def mkB (x : Array Nat) (t : Tok) : Value := .bytes (by8 x) t

theorem in_nil (h : Heap) : Frag.In [] h := fun _ _ e => by cases e

section
variable {prog : Program} {w : World} {A : Around} {E : Value → Shared → Prop} {s : Shared}

theorem join_str {D : Addr} {ps : List (Array Nat × Tok)} {t₀ : Tok} {Q : Value → Shared → Prop} (hl : ListOf s.heap D (vals mkS ps)) (_hne : ps ≠ []) (hsum : ps.length + (ps.map (·.1.size)).sum ≤ 1048576)
    (hq : ∀ t k, Q (mkS (allOf ps).toArray t) { s with toks := k }) : wpAny (model prog w) A (call (.builtin "str.join") [mkS #[] t₀, .ref D]) Q E s := by
  obtain ⟨n, hn⟩ := hl
  have e : vals mkS ps = (strValues (ps.map fun p => (⟨p.1⟩, p.2))).toArray := by
    simp [vals, strValues, mkS, Function.comp_def]
  have hl' : s.heap.IsList D (strValues (ps.map fun p => (⟨p.1⟩, p.2))).toArray := ⟨_, hn, rfl, n, by rw [e]⟩
  have hw : (ps.map fun p => (⟨p.1⟩ : PySem.Str)).map (·.length) = ps.map (·.1.size) := by simp [PySem.Str.length, Function.comp_def]
  refine SC.join (x := ⟨#[]⟩) (texts := ps.map fun p => ⟨p.1⟩) hl' (by simp [Function.comp_def]) (PyProof.Rows.joinOk_of_weight (by rw [hw, List.length_map]; omega) (by decide)) fun t k => ?_
  have e2 : Txt.join ⟨#[]⟩ (ps.map fun p => (⟨p.1⟩ : PySem.Str)) = ⟨(allOf ps).toArray⟩ := by
    show PySem.Builtin.Str.glued _ _ = _
    rw [StrLaws.glued_eq_join]
    have gen : ∀ qs : List (Array Nat × Tok), (Str.join ⟨#[]⟩ (qs.map fun p => (⟨p.1⟩ : PySem.Str))).cps.toList = allOf qs := by
      intro qs
      induction qs with
      | nil => rfl
      | cons q r ih =>
        cases r with
        | nil => simp [Str.join, allOf]
        | cons q' r' =>
          show ((⟨q.1⟩ : PySem.Str) ++ ⟨#[]⟩ ++ Str.join ⟨#[]⟩ ((q' :: r').map fun p => (⟨p.1⟩ : PySem.Str))).cps.toList = _
          have : ∀ a b c : PySem.Str, (a ++ b ++ c).cps.toList = a.cps.toList ++ b.cps.toList ++ c.cps.toList := by
            intro a b c
            show ((a.cps ++ b.cps) ++ c.cps).toList = _
            simp
          rw [this, ih]
          simp [allOf]
    have := gen ps
    cases hj : Str.join ⟨#[]⟩ (ps.map fun p => (⟨p.1⟩ : PySem.Str)) with
    | mk cps => rw [hj] at this; simp only at this; rw [← this]
  rw [e2]
  exact hq t k

theorem take_bytes (b : Array UInt8) (t : Tok) (h : Heap) : Looks (model prog w) h (takeBufferQuiet? "bytes.join" (.bytes b t) 0) (some (b, none)) :=
  Looks.of_peek (in_nil h) (by kernel_rfl)

theorem letgo_bytes : ∀ (taken : List (Value × Option Value)) (keep : List Value) (Q : Unit → Shared → Prop) (s : Shared), (∀ p ∈ taken, p.2 = none) → Q () s → wpAny (model prog w) A (joinLetGo taken keep) Q E s
  | [], _, _, _, _, hq => wpAny_pure hq
  | (x, u) :: rest, keep, Q, s, h, hq => by
    have hu : u = none := h _ (List.mem_cons_self ..)
    subst hu
    unfold joinLetGo
    refine wpAny_bind (wpAny_letGo ?_)
    exact letgo_bytes rest keep Q s (fun p hp => h p (List.mem_cons_of_mem _ hp)) hq

theorem joined_nil (l : List (Array UInt8)) : joined #[] l = l.foldl (fun o p => o ++ p) #[] := by
  unfold joined
  have gen : ∀ (l : List (Array UInt8)) (k : Nat) (acc : Array UInt8), (l.zipIdx k).foldl (fun out (x : Array UInt8 × Nat) => (if x.2 > 0 then out ++ #[] else out) ++ x.1) acc = l.foldl (fun o p => o ++ p) acc := by
    intro l
    induction l with
    | nil => intro k acc; rfl
    | cons x r ih =>
      intro k acc
      rw [List.zipIdx_cons, List.foldl_cons, List.foldl_cons, ih]
      congr 1
      split <;> simp
  exact gen l 0 #[]

theorem foldl_by8 (ps : List (Array Nat × Tok)) : (ps.map fun p => by8 p.1).foldl (fun o p => o ++ p) #[] = by8 (allOf ps).toArray := by
  have gen : ∀ (ps : List (Array Nat × Tok)) (acc : Array UInt8), (ps.map fun p => by8 p.1).foldl (fun o p => o ++ p) acc = acc ++ by8 (allOf ps).toArray := by
    intro ps
    induction ps with
    | nil => intro acc; simp [allOf, by8]
    | cons p r ih =>
      intro acc
      rw [List.map_cons, List.foldl_cons, ih]
      apply Array.toList_inj.mp
      simp [allOf, by8]
  rw [gen]
  simp

theorem join_entry : entryFor table "bytes.join" = some Builtin.«bytes.join» := entryFor_of_tree (by kernel_rfl)
theorem slot_join : Slot "bytes" "join" "bytes.join" :=
  .of (owner := "bytes") (n := "join") (by rw [typeLookup_type, builtinLookup_eq_fast]; kernel_rfl) (by decide +kernel) (by decide +kernel) (by decide +kernel)
    (by first | exact .inl (by decide +kernel) | exact .inr (by decide +kernel)) (by rw [isSubtype_type]; kernel_rfl)
theorem args_join (a b : Value) : argsOk "bytes.join" ⟨[a, b], []⟩ := by unfold argsOk; kernel_rfl
theorem slot_sub : Slot "re.Pattern" "sub" "re.Pattern.sub" :=
  .of (owner := "re.Pattern") (n := "sub") (by rw [typeLookup_type, builtinLookup_eq_fast]; kernel_rfl) (by decide +kernel) (by decide +kernel) (by decide +kernel)
    (by first | exact .inl (by decide +kernel) | exact .inr (by decide +kernel)) (by rw [isSubtype_type]; kernel_rfl)
theorem sub_entry : entryFor table "re.Pattern.sub" = some Builtin.«re.Pattern.sub» := entryFor_of_tree (by kernel_rfl)
theorem args_sub (a b c : Value) : argsOk "re.Pattern.sub" ⟨[a, b, c], []⟩ := by unfold argsOk; kernel_rfl
end
end Mine
end

section
set_option maxRecDepth 100000
namespace Mine
open PySem PySem.Sre PySem.W PySem.Builtin.Re PySem.Builtin.Bytes

section
variable {prog : Program} {w : World} {A : Around} {E : Value → Shared → Prop} {s : Shared}

theorem call_slot {T : String} {name : PySem.Str} {id : String} {B : Builtin} {self : Value} {rest : List Value} {Q : Value → Shared → Prop} (slot : Slot T name id) (hT : s.TypeIs self T)
    (entry : entryFor table id = some B) (args : argsOk id ⟨self :: rest, []⟩)
    (h : wpAny (model prog w) A.in1 (B ⟨self :: rest, []⟩) (fun fin s' => match fin with | .done f => wants Q E (.ok f) s' | .again c' => c'.quiet = true ∧ codeAny (model prog w) A c' (wants Q E) s') (fun e s' => wants Q E (.error e) s') s) :
    wpAny (model prog w) A (call (.builtin id) (self :: rest)) Q E s :=
  wpAny_call (codeAny_call_builtin slot.plain entry (slot.check _ _ _ _ _ _ _ _ hT args h))

theorem vals_get (mk : Array Nat → Tok → Value) (ps : List (Array Nat × Tok)) (i : Nat) (hi : i < ps.length) : (vals mk ps).getD i .none = mk ps[i].1 ps[i].2 := by
  unfold vals
  rw [Array.getD_eq_getD_getElem?]
  simp [hi]

theorem join_bytes {D : Addr} {ps : List (Array Nat × Tok)} {t₀ : Tok} {Q : Value → Shared → Prop} (hl : ListOf s.heap D (vals mkB ps)) (hne : ps ≠ []) (hsum : ps.length + (ps.map (·.1.size)).sum ≤ 1048576)
    (hq : ∀ t k, Q (mkB (allOf ps).toArray t) { s with toks := k }) : wpAny (model prog w) A (call (.builtin "bytes.join") [mkB #[] t₀, .ref D]) Q E s := by
  obtain ⟨n, hn⟩ := hl
  refine call_slot slot_join rfl join_entry (args_join _ _) ?_
  show wpAny _ _ (joinM .bytes _) _ _ s
  unfold joinM
  refine wpAny_bind (m := selfAndOne _ _) (wpAny_pure ?_)
  dsimp only
  rw [if_pos (by rfl)]
  refine wpAny_bind (m := joinItems (.ref D)) ?_
  unfold joinItems
  refine wpAny_bind (m := typeOf (.ref D)) (wpAny_bind (wpAny_loadPart hn (wpAny_pure ?_)))
  rw [if_pos (by rfl)]
  refine wpAny_pure ?_
  refine wpAny_bind (m := seqItems? (.ref D)) ?_
  unfold seqItems?
  refine wpAny_bind (wpAny_load hn (wpAny_pure ?_))
  dsimp only
  rw [if_pos (by rfl)]
  have hsz : (vals mkB ps).size = ps.length := vals_size _ _
  have hlen : ps.length ≤ 1048576 := by omega
  match ps, hne with
  | [p], _ =>
    show wpAny _ _ (pure (Value.type "bytes") >>= _) _ _ s
    refine wpAny_bind (wpAny_pure ?_)
    rw [if_pos (by rfl)]
    refine wpAny_bind (wpAny_rule (wpAny_pure ?_))
    have e : mkB p.1 p.2 = mkB (allOf [p]).toArray p.2 := by simp [allOf]
    show Q (mkB p.1 p.2) s
    rw [e]
    exact hq _ s.toks
  | p :: p' :: r, _ =>
    refine wpAny_bind (m := forIn (m := Sem) [:(vals mkB (p :: p' :: r)).size] _ _) ?_
    generalize hps : p :: p' :: r = ps at *
    rw [Std.Legacy.Range.forIn_eq_forIn_range']
    refine wpAny_forIn_list _ (fun l (st : Array (Array UInt8) × List (Value × Option Value)) s' => ∃ i, i ≤ ps.length ∧ l = List.range' i (ps.length - i) ∧ st.1.toList = (ps.take i).map (fun p => by8 p.1) ∧ st.2 = (ps.take i).map (fun p => (mkB p.1 p.2, none)) ∧ s' = s) _ ?_ ?_ _ _ ?_
    · rintro x rest ⟨parts, taken⟩ s' ⟨i, hi, hl, h1, h2, rfl⟩
      have hi' : i < ps.length := by
        apply Nat.lt_of_le_of_ne hi
        intro e
        rw [e, Nat.sub_self] at hl
        cases hl
      rw [show ps.length - i = (ps.length - (i + 1)) + 1 by omega, List.range'_succ] at hl
      obtain ⟨rfl, rfl⟩ := List.cons.inj hl
      dsimp only at h1 h2 ⊢
      refine wpAny_bind (wpAny_bind (wpAny_load hn (wpAny_pure ?_)))
      dsimp only
      have hany : (Kind.bytes == Kind.bytearray || taken.any fun x => x.fst.onHeap) = false := by
        rw [h2]
        show (false || _) = false
        rw [Bool.false_or, List.any_map]
        exact List.any_eq_false.mpr fun p _ => by rw [Function.comp_apply]; exact Bool.false_ne_true
      rw [if_neg (by rw [hany]; exact Bool.false_ne_true), vals_get mkB ps x hi']
      refine wpAny_bind (wpAny_holding ((take_bytes (by8 ps[x].1) ps[x].2 _).here ?_))
      dsimp only
      refine wpAny_bind (wpAny_bind (wpAny_load hn (wpAny_pure ?_)))
      dsimp only
      rw [if_neg (by simp)]
      refine wpAny_pure ?_
      refine ⟨x + 1, hi', rfl, ?_, ?_, rfl⟩
      · dsimp only
        rw [Array.toList_push, h1, List.take_add_one, List.map_append]
        simp [hi']
      · dsimp only
        rw [h2, List.take_add_one, List.map_append]
        simp [hi']
    · rintro ⟨parts, taken⟩ s' ⟨i, hi, hl, h1, h2, rfl⟩
      have hi' : i = ps.length := by
        have := congrArg List.length hl
        simp at this
        omega
      subst hi'
      dsimp only at h1 h2 ⊢
      rw [List.take_length] at h1 h2
      refine wpAny_bind (m := payload (mkB #[] t₀)) (wpAny_pure ?_)
      have hj : joined (by8 #[]) parts.toList = by8 (allOf ps).toArray := by
        rw [h1, show by8 #[] = #[] by simp [by8]]; exact (joined_nil _).trans (foldl_by8 ps)
      have hall : (allOf ps).length = (ps.map (·.1.size)).sum := by
        simp [allOf, List.length_flatMap]
      have htl : tooLong (Array.foldl (fun x1 x2 => x1 + x2.size) ((by8 #[]).size * (parts.size - 1)) parts) = false := by
        have e : Array.foldl (fun x1 x2 => x1 + x2.size) ((by8 #[]).size * (parts.size - 1)) parts = (ps.map (·.1.size)).sum := by
          rw [← Array.foldl_toList, h1]
          have gen : ∀ (qs : List (Array Nat × Tok)) (a : Nat), List.foldl (fun (x1 : Nat) (x2 : Array UInt8) => x1 + x2.size) a (qs.map fun p => by8 p.1) = a + (qs.map (·.1.size)).sum := by
            intro qs
            induction qs with
            | nil => intro a; rfl
            | cons q r ih =>
              intro a
              rw [List.map_cons, List.foldl_cons, ih, List.map_cons, List.sum_cons]
              simp [by8]
              omega
          rw [gen]
          simp [by8]
        rw [e]
        unfold tooLong
        simp [sizeLine]
        omega
      rw [htl, if_neg Bool.false_ne_true, hj]
      refine wpAny_bind (m := Kind.bytes.new _) ?_
      show wpAny _ _ (mkBytes _) _ _ _
      unfold mkBytes
      rw [if_neg (by simp [by8, sizeLine]; omega)]
      refine wpAny_bind (wpAny_fresh (wpAny_pure ?_))
      refine wpAny_bind (wpAny_holding (wpAny_point ?_))
      refine wpAny_bind (letgo_bytes _ _ _ _ (by rw [h2]; intro p hp; obtain ⟨q, _, rfl⟩ := List.mem_map.mp hp; rfl) (wpAny_pure ?_))
      exact hq _ _
    · refine ⟨0, Nat.zero_le _, ?_, rfl, rfl, rfl⟩
      show List.range' _ _ _ = _
      simp [hsz, Std.Legacy.Range.size]
end
end Mine
end

section
set_option maxRecDepth 100000
namespace Mine
open PySem PySem.Sre PySem.W PySem.Builtin.Re PySem.Builtin.Bytes

section
variable {prog : Program} {w : World} {A : Around} {E : Value → Shared → Prop} {s : Shared}

def LitOk (M : Model) (v : Value) : Prop :=
  (∃ x : PySem.Str, (∀ h, Looks M h (asStr? v) (some x)) ∧ x.cps.contains 92 = false) ∨
  ((∀ h, Looks M h (asStr? v) none) ∧ ∃ b : Array UInt8, (∀ h, Looks M h (bufferQuiet? "re.Pattern.sub" v) (some b)) ∧ b.contains 92 = false)

theorem named_sub (a b : Value) (h : Heap) : Looks (model prog w) h (reNamed "re.Pattern.sub" "sub" ["repl", "string", "count"] 2 [a, b] []) [some a, some b, none] :=
  Looks.of_peek (in_nil h) (by kernel_rfl)

theorem heap_next (h : Heap) : h.get? h.objs.size = none := by
  cases hq : h.get? h.objs.size with
  | none => rfl
  | some o => exact absurd (Heap.lt_size hq) (Nat.lt_irrefl _)

theorem sub_call {k : Nat} {mk : Array Nat → Tok → Value} {sv : Value} {text repl code : Array Nat} {rt : Tok} (K : Kd prog w k mk sv text repl rt) {a : Addr} (P : PatAt s.heap a code k) (hT : s.TypeIs (.ref a) "re.Pattern")
    (hsp : ∀ h, Looks (model prog w) h (specialOf (mk repl rt) (PySem.Str.ofString "__call__")) none) (hlit : LitOk (model prog w) (mk repl rt))
    (hts : text.size ≤ 200000) (hr : repl.size ≤ 2) (next : Nat → Option (Nat × Nat))
    (find : ∀ p, p ≤ text.size → match next p with
      | some (q, e) => (p ≤ q ∧ q < e ∧ e ≤ text.size) ∧ ∃ n, n ≤ 2 ^ 60 ∧ Hit (it n (forSearch code text 0 p text.size false)) q e
      | none => ∃ n, n ≤ 2 ^ 60 ∧ Miss (it n (forSearch code text 0 p text.size false)))
    {Q : Value → Shared → Prop} (hq : ∀ h' tk t', Keep s.heap h' → Q (mk (subOut next text repl (text.size + 1) 0).toArray t') { s with heap := h', toks := tk }) :
    wpAny (model prog w) A (call (.builtin "re.Pattern.sub") [.ref a, mk repl rt, sv]) Q E s := by
  refine call_slot slot_sub hT sub_entry (args_sub _ _ _) ?_
  show wpAny _ _ (reSubstitute "re.Pattern.sub" "sub" false _) _ _ s
  unfold reSubstitute
  dsimp only
  refine wpAny_bind ((named_sub _ _ _).here ?_)
  dsimp only
  refine wpAny_bind (wpAny_pure ?_)
  refine wpAny_bind ((hsp _).here ?_)
  rw [if_neg (by decide)]
  have go : wpAny (model prog w) A.in1 (do
      let _ ← holding [mk repl rt] (reWholeTarget (.ref a) sv)
      let l ← newList []
      again (.builtin "re.Pattern.sub.loop" ⟨[.ref a, sv, mk repl rt, rawInt 0, rawInt 0, rawInt 0, rawInt 0, rawInt 0, .bool false, l, .bool false], []⟩))
      (fun fin s' => match fin with | .done f => wants Q E (.ok f) s' | .again c' => c'.quiet = true ∧ codeAny (model prog w) A c' (wants Q E) s') (fun e s' => wants Q E (.error e) s') s := by
    refine wpAny_bind (wpAny_holding (wp_target_of P K.two (K.txt _) (K.noc _) ?_))
    refine wpAny_bind (m := newList []) (wpAny_newObj_type ?_ (Nat.zero_le _))
    refine wpAny_pure ⟨loop_quiet _, ?_⟩
    refine sub_loop K P (heap_next _) hts hr next find (text.size + 1) 0 _ [] 0 (by omega) (Nat.zero_le _) (Keep.push _ _) ⟨0, Heap.get?_push_size _ rfl⟩ (Nat.le_refl _) (Nat.le_refl _) fun h' tk t' kp => ?_
    show Q _ _
    exact hq h' tk t' kp
  rcases hlit with ⟨x, hx, hc⟩ | ⟨hx, b, hb, hc⟩
  · refine wpAny_bind ((hx _).here ?_)
    dsimp only
    rw [hc]
    refine wpAny_bind (wpAny_pure ?_)
    exact go
  · refine wpAny_bind ((hx _).here ?_)
    dsimp only
    refine wpAny_bind ((hb _).here ?_)
    dsimp only
    rw [hc]
    refine wpAny_bind (wpAny_pure ?_)
    exact go

/-! the two kinds -/
theorem kd_str (text repl : Array Nat) (t rt : Tok) (hts : text.size ≤ 200000) : Kd prog w 0 mkS (.str ⟨text⟩ t) text repl rt where
  two := .inl rfl
  txt := fun _ => Looks.of_pure rfl
  noc := fun _ => Looks.of_pure rfl
  slice := by
    intro b e A Q E s h
    show wpAny _ _ (mkStr ⟨text.extract b e⟩) _ _ _
    have hle : ¬ (PySem.Str.length ⟨text.extract b e⟩ > sizeLine) := by
      show ¬ ((text.extract b e).size > sizeLine)
      simp only [Array.size_extract, sizeLine]
      omega
    unfold mkStr
    rw [if_neg hle]
    exact wpAny_bind (wpAny_fresh (wpAny_pure h))
  join := fun D ps t₀ A Q E s hl hne hsum hq => join_str hl hne hsum hq
  lit := fun _ => Looks.of_pure rfl
  nn := rfl
theorem by8_nat (b : Array UInt8) : by8 (b.map (·.toNat)) = b := by
  unfold by8
  rw [Array.map_map]
  have : ((fun x : Nat => x.toUInt8) ∘ fun x : UInt8 => x.toNat) = id := by
    funext x
    simp
  rw [this, Array.map_id]
theorem kd_bytes (b : Array UInt8) (repl : Array Nat) (t rt : Tok) (hts : b.size ≤ 200000) : Kd prog w 1 mkB (.bytes b t) (b.map (·.toNat)) repl rt where
  two := .inr rfl
  txt := fun h => Looks.of_peek (in_nil h) (by kernel_rfl)
  noc := fun h => Looks.of_peek (in_nil h) (by kernel_rfl)
  slice := by
    intro b₁ e A Q E s h
    show wpAny _ _ (mkBytes (by8 ((b.map (·.toNat)).extract b₁ e))) _ _ _
    have hle : ¬ ((by8 ((b.map (·.toNat)).extract b₁ e)).size > sizeLine) := by
      simp only [by8, Array.size_map, Array.size_extract, sizeLine]
      omega
    unfold mkBytes
    rw [if_neg hle]
    exact wpAny_bind (wpAny_fresh (wpAny_pure h))
  join := fun D ps t₀ A Q E s hl hne hsum hq => join_bytes hl hne hsum hq
  lit := fun h => Looks.of_peek (in_nil h) (by kernel_rfl)
  nn := rfl
end
end Mine
end

section
set_option maxRecDepth 100000
namespace Mine
open PySem PySem.Sre PySem.W PySem.Builtin.Re PySem.Builtin.Bytes

/-- the ends of rows as a return and a feed; the flag: the sign before was a return -/
def fixS : Bool → List Nat → List Nat
  | _, [] => []
  | b, c :: r => if c == 10 then (if b then fixS false r else 13 :: 10 :: fixS false r) else if c == 13 then 13 :: 10 :: fixS true r else c :: fixS false r
/-- dots doubled; the flag: a row begins here -/
def dotS : Bool → List Nat → List Nat
  | _, [] => []
  | b, c :: r => if b && c == 46 then 46 :: 46 :: dotS false r else c :: dotS (c == 10) r

def nextOf (ok : Nat → Bool) (en : Nat → Nat) (size p : Nat) : Option (Nat × Nat) := (firstFrom ok size (size + 1 - p) p).map fun q => (q, en q)

theorem drop_cons (text : Array Nat) {p : Nat} (h : p < text.size) : text.toList.drop p = text.getD p 0 :: text.toList.drop (p + 1) := by
  rw [List.drop_eq_getElem_cons (by simpa using h)]
  simp [Array.getD, h]
theorem extract_cons (text : Array Nat) {p q : Nat} (h : p < text.size) (hq : p < q) : (text.extract p q).toList = text.getD p 0 :: (text.extract (p + 1) q).toList := by
  rw [Array.toList_extract, Array.toList_extract, List.extract_eq_take_drop, List.extract_eq_take_drop, drop_cons text h, show q - p = (q - (p + 1)) + 1 by omega, List.take_succ_cons]
theorem extract_self (text : Array Nat) (p : Nat) : (text.extract p p).toList = [] := by simp
theorem extract_end (text : Array Nat) (p : Nat) : (text.extract p text.size).toList = text.toList.drop p := by
  rw [Array.toList_extract, List.extract_eq_take_drop, List.take_of_length_le]
  simp

theorem eolEnd_in (text : Array Nat) {q : Nat} (h : q < text.size) : q < eolEnd text q ∧ eolEnd text q ≤ text.size := by
  unfold eolEnd
  by_cases hc : (text.getD q 0 == 13 && (decide (q + 1 < text.size) && text.getD (q + 1) 0 == 10)) = true
  · rw [if_pos hc]
    have := of_decide_eq_true (Bool.and_eq_true_iff.mp (Bool.and_eq_true_iff.mp hc).2).1
    omega
  · rw [if_neg hc]; omega
theorem fix_plain (text : Array Nat) : ∀ (k p q : Nat), q - p ≤ k → p ≤ q → q ≤ text.size → (∀ j, p ≤ j → j < q → isEol text j = false) → fixS false (text.toList.drop p) = (text.extract p q).toList ++ fixS false (text.toList.drop q)
  | 0, p, q, hk, h1, h2, _ => by
    have : p = q := by omega
    subst this
    rw [extract_self]; rfl
  | k + 1, p, q, hk, h1, h2, hn => by
    by_cases hp : p = q
    · subst hp; rw [extract_self]; rfl
    · have hlt : p < text.size := by omega
      rw [drop_cons text hlt, extract_cons text hlt (by omega)]
      have := hn p (Nat.le_refl _) (by omega)
      unfold isEol at this
      obtain ⟨e1, e2⟩ := Bool.or_eq_false_iff.mp this
      conv => lhs; unfold fixS
      rw [e1, e2]
      simp only [Bool.false_eq_true, if_false, List.cons_append]
      rw [fix_plain text k (p + 1) q (by omega) (by omega) h2 fun j h3 h4 => hn j (by omega) h4]

theorem fix_skip {b : Bool} {l : List Nat} (h : l.head? ≠ some 10) : fixS b l = fixS false l := by
  cases l with
  | nil => rfl
  | cons c r =>
    have hc : (c == 10) = false := by
      cases hh : (c == 10) with
      | false => rfl
      | true => exact absurd (by rw [beq_iff_eq.mp hh]; rfl) h
    unfold fixS
    rw [hc]
    rfl

theorem fix_out (text : Array Nat) : ∀ (f p : Nat), text.size - p < f → p ≤ text.size → subOut (nextOf (isEol text) (eolEnd text) text.size) text #[13, 10] f p = fixS false (text.toList.drop p)
  | 0, p, h, _ => absurd h (Nat.not_lt_zero _)
  | f + 1, p, h, hp => by
    unfold subOut
    cases hx : firstFrom (isEol text) text.size (text.size + 1 - p) p with
    | none =>
      rw [show nextOf (isEol text) (eolEnd text) text.size p = none by unfold nextOf; rw [hx]; rfl]
      have hn := firstFrom_none (by omega) hx
      rw [fix_plain text _ p text.size (Nat.le_refl _) hp (Nat.le_refl _) hn]
      have : text.toList.drop text.size = [] := by simp
      rw [this]
      simp [fixS]
    | some q =>
      rw [show nextOf (isEol text) (eolEnd text) text.size p = some (q, eolEnd text q) by unfold nextOf; rw [hx]; rfl]
      obtain ⟨h1, h2, h3, h4⟩ := firstFrom_ok hx
      rw [fix_plain text _ p q (Nat.le_refl _) h1 (by omega) h4]
      dsimp only
      rw [List.append_assoc]
      congr 1
      have hen := eolEnd_in text h2
      rw [fix_out text f (eolEnd text q) (by omega) hen.2, drop_cons text h2]
      show 13 :: 10 :: _ = _
      unfold isEol at h3
      unfold eolEnd
      cases h13 : (text.getD q 0 == 13) with
      | true =>
        have h10 : (text.getD q 0 == 10) = false := by rw [beq_iff_eq.mp h13]; rfl
        conv => rhs; unfold fixS
        rw [h10, h13]
        simp only [Bool.false_eq_true, if_false, if_true, Bool.true_and]
        by_cases hc : (decide (q + 1 < text.size) && text.getD (q + 1) 0 == 10) = true
        · rw [if_pos hc]
          obtain ⟨e1, e2⟩ := Bool.and_eq_true_iff.mp hc
          rw [drop_cons text (of_decide_eq_true e1)]
          conv => rhs; unfold fixS
          rw [e2]
          rfl
        · rw [if_neg hc]
          congr 2
          refine (fix_skip ?_).symm
          intro hh
          by_cases hq : q + 1 < text.size
          · rw [drop_cons text hq] at hh
            apply hc
            rw [decide_eq_true hq, Bool.true_and]
            exact beq_iff_eq.mpr (Option.some.inj hh)
          · rw [List.drop_of_length_le (by simp; omega)] at hh
            cases hh
      | false =>
        rw [h13, Bool.or_false] at h3
        conv => rhs; unfold fixS
        rw [h3]
        simp

theorem bol_next (text : Array Nat) (p : Nat) : atBol text (p + 1) = (text.getD p 0 == 10) := by
  unfold atBol
  simp
theorem dot_plain (text : Array Nat) : ∀ (k p q : Nat), q - p ≤ k → p ≤ q → q ≤ text.size → (∀ j, p ≤ j → j < q → dotOk text j = false) → dotS (atBol text p) (text.toList.drop p) = (text.extract p q).toList ++ dotS (atBol text q) (text.toList.drop q)
  | 0, p, q, hk, h1, h2, _ => by
    have : p = q := by omega
    subst this
    rw [extract_self]; rfl
  | k + 1, p, q, hk, h1, h2, hn => by
    by_cases hp : p = q
    · subst hp; rw [extract_self]; rfl
    · have hlt : p < text.size := by omega
      rw [drop_cons text hlt, extract_cons text hlt (by omega)]
      have := hn p (Nat.le_refl _) (by omega)
      unfold dotOk isDot at this
      conv => lhs; unfold dotS
      rw [this]
      simp only [Bool.false_eq_true, if_false, List.cons_append]
      rw [← bol_next, dot_plain text k (p + 1) q (by omega) (by omega) h2 fun j h3 h4 => hn j (by omega) h4]

theorem dot_out (text : Array Nat) : ∀ (f p : Nat), text.size - p < f → p ≤ text.size → subOut (nextOf (dotOk text) (· + 1) text.size) text #[46, 46] f p = dotS (atBol text p) (text.toList.drop p)
  | 0, p, h, _ => absurd h (Nat.not_lt_zero _)
  | f + 1, p, h, hp => by
    unfold subOut
    cases hx : firstFrom (dotOk text) text.size (text.size + 1 - p) p with
    | none =>
      rw [show nextOf (dotOk text) (· + 1) text.size p = none by unfold nextOf; rw [hx]; rfl]
      have hn := firstFrom_none (by omega) hx
      rw [dot_plain text _ p text.size (Nat.le_refl _) hp (Nat.le_refl _) hn]
      have : text.toList.drop text.size = [] := by simp
      rw [this]
      simp [dotS]
    | some q =>
      rw [show nextOf (dotOk text) (· + 1) text.size p = some (q, q + 1) by unfold nextOf; rw [hx]; rfl]
      obtain ⟨h1, h2, h3, h4⟩ := firstFrom_ok hx
      rw [dot_plain text _ p q (Nat.le_refl _) h1 (by omega) h4]
      dsimp only
      rw [List.append_assoc]
      congr 1
      rw [dot_out text f (q + 1) (by omega) (by omega), drop_cons text h2, bol_next]
      unfold dotOk isDot at h3
      conv => rhs; unfold dotS
      rw [h3, beq_iff_eq.mp (Bool.and_eq_true_iff.mp h3).2]
      rfl

def fixL (l : List Nat) : List Nat := fixS false l
def dotL (l : List Nat) : List Nat := dotS true l
theorem fix_whole (text : Array Nat) : subOut (nextOf (isEol text) (eolEnd text) text.size) text #[13, 10] (text.size + 1) 0 = fixL text.toList := by
  rw [fix_out text _ 0 (by omega) (Nat.zero_le _)]; rfl
theorem dot_whole (text : Array Nat) : subOut (nextOf (dotOk text) (· + 1) text.size) text #[46, 46] (text.size + 1) 0 = dotL text.toList := by
  rw [dot_out text _ 0 (by omega) (Nat.zero_le _)]; rfl

theorem fix_find (text : Array Nat) (p : Nat) (hp : p ≤ text.size) : match nextOf (isEol text) (eolEnd text) text.size p with
      | some (q, e) => (p ≤ q ∧ q < e ∧ e ≤ text.size) ∧ ∃ n, n ≤ 2 ^ 60 ∧ Hit (it n (forSearch codeEol text 0 p text.size false)) q e
      | none => ∃ n, n ≤ 2 ^ 60 ∧ Miss (it n (forSearch codeEol text 0 p text.size false)) := by
  obtain ⟨n, h1, h2⟩ := eol_search text p hp
  unfold nextOf
  cases hx : firstFrom (isEol text) text.size (text.size + 1 - p) p with
  | none =>
    rw [hx] at h2
    exact ⟨n, Nat.le_trans h1 (by decide), h2⟩
  | some q =>
    rw [hx] at h2
    obtain ⟨h3, h4, h5, h6⟩ := firstFrom_ok hx
    exact ⟨⟨h3, (eolEnd_in text h4).1, (eolEnd_in text h4).2⟩, n, Nat.le_trans h1 (by decide), h2⟩
theorem dot_find (text : Array Nat) (hts : text.size ≤ 200000) (p : Nat) (hp : p ≤ text.size) : match nextOf (dotOk text) (· + 1) text.size p with
      | some (q, e) => (p ≤ q ∧ q < e ∧ e ≤ text.size) ∧ ∃ n, n ≤ 2 ^ 60 ∧ Hit (it n (forSearch codeDot text 0 p text.size false)) q e
      | none => ∃ n, n ≤ 2 ^ 60 ∧ Miss (it n (forSearch codeDot text 0 p text.size false)) := by
  obtain ⟨n, h1, h2⟩ := dot_search text p hp
  unfold nextOf
  cases hx : firstFrom (dotOk text) text.size (text.size + 1 - p) p with
  | none =>
    rw [hx] at h2
    exact ⟨n, by omega, h2⟩
  | some q =>
    rw [hx] at h2
    obtain ⟨h3, h4, h5, h6⟩ := firstFrom_ok hx
    exact ⟨⟨h3, Nat.lt_succ_self _, h4⟩, n, by omega, h2⟩

section
variable {prog : Program} {w : World} {A : Around} {E : Value → Shared → Prop} {s : Shared}

theorem call_str (x : PySem.Str) (t : Tok) (h : Heap) : Looks (model prog w) h (specialOf (.str x t) (PySem.Str.ofString "__call__")) none := Looks.of_peek (in_nil h) (by kernel_rfl)
theorem call_bytes (x : Array UInt8) (t : Tok) (h : Heap) : Looks (model prog w) h (specialOf (.bytes x t) (PySem.Str.ofString "__call__")) none := Looks.of_peek (in_nil h) (by kernel_rfl)

/-- the ends: _twin_re_3.sub(CRLF, text) -/
theorem sub_eol {a : Addr} (P : PatAt s.heap a codeEol 0) (hT : s.TypeIs (.ref a) "re.Pattern") (x : PySem.Str) (t rt : Tok) (hts : x.cps.size ≤ 200000) {Q : Value → Shared → Prop}
    (hq : ∀ h' tk t', Keep s.heap h' → Q (.str ⟨(fixL x.cps.toList).toArray⟩ t') { s with heap := h', toks := tk }) :
    wpAny (model prog w) A (call (.builtin "re.Pattern.sub") [.ref a, .str ⟨#[13, 10]⟩ rt, .str x t]) Q E s := by
  refine sub_call (kd_str x.cps #[13, 10] t rt hts) P hT (call_str _ _) (.inl ⟨_, fun _ => Looks.of_pure rfl, by decide +kernel⟩) hts (by decide) _ (fix_find x.cps) fun h' tk t' kp => ?_
  rw [fix_whole]
  exact hq h' tk t' kp
/-- the dots of a text: _twin_re_1.sub('..', text) -/
theorem sub_dot {a : Addr} (P : PatAt s.heap a codeDot 0) (hT : s.TypeIs (.ref a) "re.Pattern") (x : PySem.Str) (t rt : Tok) (hts : x.cps.size ≤ 200000) {Q : Value → Shared → Prop}
    (hq : ∀ h' tk t', Keep s.heap h' → Q (.str ⟨(dotL x.cps.toList).toArray⟩ t') { s with heap := h', toks := tk }) :
    wpAny (model prog w) A (call (.builtin "re.Pattern.sub") [.ref a, .str ⟨#[46, 46]⟩ rt, .str x t]) Q E s := by
  refine sub_call (kd_str x.cps #[46, 46] t rt hts) P hT (call_str _ _) (.inl ⟨_, fun _ => Looks.of_pure rfl, by decide +kernel⟩) hts (by decide) _ (dot_find x.cps hts) fun h' tk t' kp => ?_
  rw [dot_whole]
  exact hq h' tk t' kp
/-- the dots of octets: _twin_re_2.sub(b'..', octets) -/
theorem sub_dotB {a : Addr} (P : PatAt s.heap a codeDot 1) (hT : s.TypeIs (.ref a) "re.Pattern") (b : Array UInt8) (t rt : Tok) (hts : b.size ≤ 200000) {Q : Value → Shared → Prop}
    (hq : ∀ h' tk t', Keep s.heap h' → Q (.bytes (by8 (dotL (b.toList.map (·.toNat))).toArray) t') { s with heap := h', toks := tk }) :
    wpAny (model prog w) A (call (.builtin "re.Pattern.sub") [.ref a, .bytes (by8 #[46, 46]) rt, .bytes b t]) Q E s := by
  refine sub_call (kd_bytes b #[46, 46] t rt hts) P hT (call_bytes _ _) (.inr ⟨fun h => Looks.of_peek (in_nil h) (by kernel_rfl), by8 #[46, 46], fun h => Looks.of_peek (in_nil h) (by kernel_rfl), by decide +kernel⟩) (by simpa using hts) (by decide) _ (dot_find (b.map (·.toNat)) (by simpa using hts)) fun h' tk t' kp => ?_
  rw [dot_whole, Array.toList_map]
  exact hq h' tk t' kp
end
end Mine
end

section
set_option maxRecDepth 100000
namespace Mine
open PySem PySem.Sre PySem.W PySem.Builtin.Re PySem.Builtin.Bytes

theorem look_ga : typeLookup (.type "re.Pattern") (PySem.Str.ofString "__getattribute__") = pure (some (.builtin "object.__getattribute__")) := by rw [typeLookup_type, builtinLookup_eq_fast]; kernel_rfl
theorem look_gan : typeLookup (.type "re.Pattern") (PySem.Str.ofString "__getattr__") = pure none := by rw [typeLookup_type, builtinLookup_eq_fast]; kernel_rfl
theorem type_sub : typeOf (.builtin "re.Pattern.sub") = pure (.type "method_descriptor") := by show builtinType _ = _; rw [builtinType_eq_fast]; kernel_rfl
theorem canon_ga : (Manifest.canonical "object.__getattribute__" != "object.__getattribute__") = false := by decide +kernel

section
variable {M : Model} {A : Around} {E : Value → Shared → Prop} {s : Shared}
theorem getSub {a : Addr} {o : Obj} {pl : Sem Bool} {Q : Value × List Value → Shared → Prop} (ho : s.heap.get? a = some o) (hc : o.cls = .type "re.Pattern") (hd : o.dict = none)
    (h : Q (.builtin "re.Pattern.sub", [.ref a]) s) : wpAny M A (getMethod (.ref a) (PySem.Str.ofString "sub") pl) Q E s := by
  have hT : s.TypeIs (.ref a) "re.Pattern" := ⟨o, ho, hc⟩
  unfold getMethod
  refine wpAny_bind (wpAny_specialOf hT look_ga ?_)
  show wpAny M A (if (Manifest.canonical "object.__getattribute__" != "object.__getattribute__") = true then _ else _) Q E s
  rw [canon_ga, if_neg Bool.false_ne_true]
  refine wpAny_bind (wpAny_specialOf hT look_gan ?_)
  refine wpAny_bind (wpAny_specialOf hT slot_sub.lookup ?_)
  refine wpAny_bind (wpAny_of_eq type_sub ?_)
  refine wpAny_bind (wpAny_load ho ?_)
  rw [hd]
  exact wpAny_bind (wpAny_rule (wpAny_pure h))
end
end Mine
end

section
set_option maxRecDepth 100000
namespace Mine
open PySem PySem.W PyProof.Rows

theorem enter {prog : Program} {w : World} {A : Around} {Q : Value → Shared → Prop} {E : Value → Shared → Prop} {s : Shared} {name : Str} {params : Arguments} {body : List Stmt} {scope : Scope}
    {pm cd doc : Value} {a : Addr} {o : Obj} {args : List Value} (binds : List (Str × Value))
    (hroom : A.depth < recursionLimit) (ho : s.heap.get? a = some o) (hdata : o.data = .func (Calls.docDef name params body scope pm cd doc)) (hlim : s.heap.NoLimit) (hcd : s.heap.CodeRec cd name)
    (hbind : bindArgs (Calls.docDef name params body scope pm cd doc) ⟨args, []⟩ = pure binds)
    (hloc : ∀ x ∈ binds, scope.names.lookup x.1 = some .local)
    (h : ∀ h₁, Keep s.heap h₁ → Fr s.heap s.heap.objs.size h₁ (fun x => binds.reverse.lookup x) →
      wpAny (model prog w) (A.deeper (envOf name scope s.heap.objs.size a cd)) (execs body (envOf name scope s.heap.objs.size a cd))
        (fun f s' => Q (match f with | .ret v => v | _ => .none) s') (fun _ _ => False)
        { s with heap := h₁, toks := s.toks + binds.length })
    (hco : scope.isCoroutine = false) (hgen : scope.isGenerator = false) (hk : scope.kind = .function)
    (hcell : ∀ x ∈ scope.names, x.2 ≠ .cell) :
    wpAny (model prog w) A (call (.ref a) args) Q E s := by
  refine wpAny_call (call_plain_ret hroom ho hdata hlim hcd hbind hloc (fun h₁ F => ?_) hco hgen hk hcell)
  exact h h₁ F.keep F

theorem enterK {K : Frag} {prog : Program} {w : World} {A : Around} {Q : Value → Shared → Prop} {E : Value → Shared → Prop} {s : Shared} {name qual : Str} {params : Arguments} {body : List Stmt} {scope : Scope}
    {dV kV doc pm cdv ct oc : Value} {an od : Option Addr} {osl : Array (Option Value)} {f : Addr} {args : List Value} (binds : List (Str × Value))
    (hroom : A.depth < recursionLimit) (X : K.In s.heap) (ho : K.lookup f = some ⟨oc, od, .func (fnOf name qual params body scope dV kV doc pm an cdv ct), osl⟩) (hcd : codeIn K cdv qual = true) (hlim : s.heap.NoLimit)
    (hbind : BindsTo s (fnOf name qual params body scope dV kV doc pm an cdv ct) ⟨args, []⟩ binds)
    (hloc : ∀ x ∈ binds, scope.names.lookup x.1 = some .local)
    (h : ∀ h₁, Keep s.heap h₁ → Fr s.heap s.heap.objs.size h₁ (fun x => binds.reverse.lookup x) → News s.heap s.heap.objs.size h₁ [] → K.In h₁ →
      wpAny (model prog w) (A.deeper (envOf qual scope s.heap.objs.size f cdv)) (execs body (envOf qual scope s.heap.objs.size f cdv))
        (fun f s' => Q (match f with | .ret v => v | _ => .none) s') (fun _ _ => False)
        { s with heap := h₁, toks := s.toks + binds.length })
    (hco : scope.isCoroutine = false) (hgen : scope.isGenerator = false) (hk : scope.kind = .function)
    (hcell : ∀ x ∈ scope.names, x.2 ≠ .cell) :
    wpAny (model prog w) A (call (.ref f) args) Q E s := by
  refine wpAny_call (codeAny_call_def (fd := fnOf name qual params body scope dV kV doc pm an cdv ct) (body := body) (binds := binds) hroom (X _ _ ho) rfl hlim (codeRec_of X hcd) rfl hbind hcell hloc (fun h₁ hns hk₁ => ?_) hco hgen hk)
  exact wpAny_mono (h h₁ hk₁ ⟨hns, hk₁, Nat.le_refl _⟩ News.nil (X.keeps hk₁)) (fun _ _ x => x) fun _ _ x => x.elim

/-- a goal that the walk leaves to the hand -/
def Halt (P : Prop) : Prop := P
theorem halt {P : Prop} (h : Halt P) : P := h

theorem lit_crlf : Str.ofString "\r\n" = ⟨#[13, 10]⟩ := by decide +kernel
theorem lit_dots : Str.ofString ".." = ⟨#[46, 46]⟩ := by decide +kernel
end Mine
end

section
set_option maxRecDepth 100000
namespace Mine
open PySem PySem.W PyProof.Rows

section
variable {prog : Program} {w : World} {A : Around} {E : Value → Shared → Prop} {s : Shared} {K : Frag} {p : Program} {loose : List Str} {mg mb : Str → Option Value}
  {cn : Str} {cs scope : Scope} {L a C : Addr} {ccd : Value} {pos pf px pe pv : Pos} {f x : Str}

/-- f(x) within a comprehension's block, f a built-in, x the block's own name -/
theorem elt_call1 {id : String} {v : Value} {m : Str → Option Value} {Q : Value → Shared → Prop} (X : K.In s.heap) (T : TopRead p loose mg mb s.heap) (e : nsIn K mainGlobals f = some none) (hv : bootBuiltins f = some (.builtin id)) (hn : f ≠ "__name__")
    (hk : scope.kind = .function) (hf : scope.names.lookup f = some .globalImplicit) (hx : scope.names.lookup x = some .local) (hC : s.heap.Ns C m) (hm : m x = some v)
    (hd : (f == ("__debug__" : Str)) = false) (hd' : (x == ("__debug__" : Str)) = false)
    (h : wpAny (model prog w) A (call (.builtin id) [v]) Q E s) :
    wpAny (model prog w) A (eval (.Call (.Name f pf) [.Name x px] [] pos) (compEnv scope C (envOf cn cs L a ccd))) Q E s := by
  refine Call_ (Calls.Name_function_global (env := compEnv scope C (envOf cn cs L a ccd)) hk hf ?_ hd)
  refine Calls.loadGlobal_builtin (mg := mg) (mb := mb) T.g (mg_none_of X T.g e) T.b ((T.builtins f hn).trans hv) ?_
  refine callWith_builtin1 (args_cons ?_)
  refine wpAny_Name (wpAny_loadName_local (env := compEnv scope C (envOf cn cs L a ccd)) hk hx hC hm ?_) hd'
  exact args_nil h

/-- [ord(x) for x in ..] over a text -/
theorem comp_ord {iter : Expr} {Q : Value → Shared → Prop} (hh : A.handled = none) (hfree : ∀ y ∈ scope.names, y.2 ≠ .free) (hcell : ∀ y ∈ scope.names, y.2 ≠ .cell) (hk : scope.kind = .function)
    (hnames : ∀ y ∈ scope.names, y.2 = .local → scope.names.lookup y.1 = some .local) (hf : scope.names.lookup (Str.ofString "ord") = some .globalImplicit) (hx : scope.names.lookup x = some .local) (hd' : (x == ("__debug__" : Str)) = false)
    (e : nsIn K mainGlobals (Str.ofString "ord") = some none)
    (hi : wpAny (model prog w) A (eval iter (envOf cn cs L a ccd)) (fun v s₁ => Halt (∃ y t, v = .str y t ∧ y.cps.size ≤ sizeLine ∧ K.In s₁.heap ∧ TopRead p loose mg mb s₁.heap ∧
      ∀ D h' tk vs, Keep s₁.heap h' → h'.IsList D vs → IntsAre vs.toList (y.cps.toList.map Int.ofNat) → Q (.ref D) { s₁ with heap := h', toks := tk })) E s)
    (hs : ∀ z, foldedSetIterable iter (envOf cn cs L a ccd) z = pure z := by intro _; rfl) :
    wpAny (model prog w) A (eval (.ListComp (.Call (.Name (Str.ofString "ord") pf) [.Name x pe] [] pv) [⟨.Name x px, iter, [], 0⟩] scope pos) (envOf cn cs L a ccd)) Q E s := by
  refine wpAny_ListComp_walk (fun _ => true) (fun v y => ∀ c t, v = .str ⟨#[c]⟩ t → ∃ u, y = .int (c : Nat) u) hfree hcell hk hnames hx (wpAny_mono hi (fun v s₁ h => ?_) fun _ _ x => x) hs
  obtain ⟨y, t, rfl, hsz, X, T, hq⟩ := h
  refine wpAny_pyIter_str fun o St W hst => ?_
  refine ⟨_, _, _, _, _, _, rfl, W A hh, hsz, hst, ?_, ?_, ?_⟩
  · intro b hb
    rw [List.mem_singleton.mp hb]
    simp [Heap.size_push]
  · refine ⟨fun C i v s₃ m₃ E' _ _ _ _ _ => wpAny_pure ⟨rfl, s₃.heap, s₃.toks, rfl, fun _ _ e => e⟩, ?_⟩
    rintro C i v s₃ m₃ E' ⟨c, u, hc, rfl⟩ - hC hm hkeep -
    have kp : Keep s₁.heap s₃.heap := fun b o' e => hkeep b o' (fun hb => by rw [List.mem_singleton.mp hb] at e; rw [heap_next] at e; cases e) (Heap.get?_push_of_some _ e)
    refine elt_call1 (X.keeps kp) (T.keeps kp) e (by boot_by_name) (by decide +kernel) hk hf hx hC hm (by decide +kernel) hd' ?_
    refine P.ord_of_char ⟨?_, s₃.heap, _, rfl, fun _ _ e => e⟩
    intro c' t' he
    have : c' = c := by
      injection he with h1 h2
      injection h1 with h1
      simpa using h1.symm
    subst this
    exact ⟨_, rfl⟩
  · intro D h' tk ys vs hD hl _ hlen hP hF hkeep
    have kp : Keep s₁.heap h' := fun b o' e => hkeep b o' (fun hb => by rw [List.mem_singleton.mp hb] at e; rw [heap_next] at e; cases e) (Heap.get?_push_of_some _ e)
    refine hq D h' tk ys kp hl ?_
    rw [List.filter_eq_self.mpr (fun _ _ => rfl)] at hF
    have gen : ∀ (vs : List Value) (ys : List Value) (cs : List Nat), Paired (fun (v y : Value) => ∀ c t, v = .str ⟨#[c]⟩ t → ∃ u, y = .int (c : Nat) u) vs ys → vs.length = cs.length → (∀ (j : Nat) (v : Value), vs[j]? = some v → ∃ c u, cs[j]? = some c ∧ v = .str ⟨#[c]⟩ u) → IntsAre ys (cs.map Int.ofNat) := by
      intro vs ys cs hF
      induction hF generalizing cs with
      | nil =>
        intro hl _
        cases cs with
        | nil => exact .nil
        | cons c r => cases hl
      | cons h _ ih =>
        intro hl hp
        cases cs with
        | nil => cases hl
        | cons c r =>
          obtain ⟨c', u, e1, e2⟩ := hp 0 _ rfl
          cases e1
          obtain ⟨u', rfl⟩ := h _ _ e2
          exact .cons _ _ (ih r (by simpa using hl) fun j v hj => hp (j + 1) v hj)
    exact gen vs ys.toList y.cps.toList hF (by simpa using hlen) (fun j v hj => by
      obtain ⟨c, u, h1, h2⟩ := hP j v hj
      exact ⟨c, u, by simpa using h1, h2⟩)

theorem texts_of : ∀ {vs ys : List Value} {cs : List Nat}, Paired (fun (v y : Value) => ∀ c t, v = .int (c : Nat) t → ∃ u, y = .str ⟨#[c]⟩ u) vs ys → vs.length = cs.length → (∀ (j : Nat) v, vs[j]? = some v → ∃ c u, cs[j]? = some c ∧ v = .int (c : Nat) u) →
    ∃ l : List (Str × Tok), ys = strValues l ∧ l.map (·.1) = cs.map fun c => ⟨#[c]⟩ := by
  intro vs ys cs hF
  induction hF generalizing cs with
  | nil =>
    intro hl _
    cases cs with
    | nil => exact ⟨[], rfl, rfl⟩
    | cons c r => cases hl
  | cons h _ ih =>
    intro hl hp
    cases cs with
    | nil => cases hl
    | cons c r =>
      obtain ⟨c', u, e1, e2⟩ := hp 0 _ rfl
      cases e1
      obtain ⟨u', rfl⟩ := h _ _ e2
      obtain ⟨l, rfl, hl2⟩ := ih (cs := r) (by simpa using hl) fun j v hj => hp (j + 1) v hj
      exact ⟨(⟨#[c]⟩, u') :: l, rfl, by simp [hl2]⟩

/-- [chr(x) for x in ..] over octets -/
theorem comp_chr {iter : Expr} {Q : Value → Shared → Prop} (hh : A.handled = none) (hfree : ∀ y ∈ scope.names, y.2 ≠ .free) (hcell : ∀ y ∈ scope.names, y.2 ≠ .cell) (hk : scope.kind = .function)
    (hnames : ∀ y ∈ scope.names, y.2 = .local → scope.names.lookup y.1 = some .local) (hf : scope.names.lookup (Str.ofString "chr") = some .globalImplicit) (hx : scope.names.lookup x = some .local) (hd' : (x == ("__debug__" : Str)) = false)
    (e : nsIn K mainGlobals (Str.ofString "chr") = some none)
    (hi : wpAny (model prog w) A (eval iter (envOf cn cs L a ccd)) (fun v s₁ => Halt (∃ (y : Array UInt8) (t : Tok), v = .bytes y t ∧ y.size ≤ sizeLine ∧ K.In s₁.heap ∧ TopRead p loose mg mb s₁.heap ∧
      ∀ D h' tk (l : List (Str × Tok)), Keep s₁.heap h' → h'.IsList D (strValues l).toArray → l.map (·.1) = (y.toList.map (·.toNat)).map (fun c => ⟨#[c]⟩) → Q (.ref D) { s₁ with heap := h', toks := tk })) E s)
    (hs : ∀ z, foldedSetIterable iter (envOf cn cs L a ccd) z = pure z := by intro _; rfl) :
    wpAny (model prog w) A (eval (.ListComp (.Call (.Name (Str.ofString "chr") pf) [.Name x pe] [] pv) [⟨.Name x px, iter, [], 0⟩] scope pos) (envOf cn cs L a ccd)) Q E s := by
  refine wpAny_ListComp_walk (fun _ => true) (fun v y => ∀ c t, v = .int (c : Nat) t → ∃ u, y = .str ⟨#[c]⟩ u) hfree hcell hk hnames hx (wpAny_mono hi (fun v s₁ h => ?_) fun _ _ x => x) hs
  obtain ⟨y, t, rfl, hsz, X, T, hq⟩ := h
  refine KBw.pyIter_bytes ?_
  refine ⟨_, _, _, _, _, _, rfl, KBw.walks hh _ y t, hsz, ⟨_, Heap.get?_push_size _ rfl, rfl, rfl⟩, ?_, ?_, ?_⟩
  · intro b hb
    rw [List.mem_singleton.mp hb]
    simp [Heap.size_push]
  · refine ⟨fun C i v s₃ m₃ E' _ _ _ _ _ => wpAny_pure ⟨rfl, s₃.heap, s₃.toks, rfl, fun _ _ e => e⟩, ?_⟩
    rintro C i v s₃ m₃ E' ⟨c, u, hc, rfl⟩ - hC hm hkeep -
    have kp : Keep s₁.heap s₃.heap := fun b o' e => hkeep b o' (fun hb => by rw [List.mem_singleton.mp hb] at e; rw [heap_next] at e; cases e) (Heap.get?_push_of_some _ e)
    refine elt_call1 (X.keeps kp) (T.keeps kp) e (by boot_by_name) (by decide +kernel) hk hf hx hC hm (by decide +kernel) hd' ?_
    have hlt : c.toNat < 256 := UInt8.toNat_lt c
    refine chr_of_range (by omega) (by omega) ⟨?_, s₃.heap, _, rfl, fun _ _ e => e⟩
    intro c' t' he
    injection he with h1 h2
    have : c' = c.toNat := by omega
    subst this
    exact ⟨_, rfl⟩
  · intro D h' tk ys vs hD hl _ hlen hP hF hkeep
    have kp : Keep s₁.heap h' := fun b o' e => hkeep b o' (fun hb => by rw [List.mem_singleton.mp hb] at e; rw [heap_next] at e; cases e) (Heap.get?_push_of_some _ e)
    rw [List.filter_eq_self.mpr (fun _ _ => rfl)] at hF
    obtain ⟨l, h1, h2⟩ := texts_of (cs := y.toList.map (·.toNat)) hF (by simpa using hlen) (fun j v hj => by
      obtain ⟨c, u, h1, h2⟩ := hP j v hj
      exact ⟨c.toNat, u, by simp [h1], h2⟩)
    refine hq D h' tk l kp ?_ h2
    have : ys = (strValues l).toArray := by rw [← h1]
    rw [← this]; exact hl

/-- ''.join of one-sign texts -/
theorem join_signs {D : Addr} {l : List (Str × Tok)} {cs : List Nat} {t : Tok} {Q : Value → Shared → Prop} (hl : s.heap.IsList D (strValues l).toArray) (hm : l.map (·.1) = cs.map fun c => ⟨#[c]⟩) (hsz : cs.length ≤ 500000)
    (hq : ∀ t' k, Q (.str ⟨cs.toArray⟩ t') { s with toks := k }) : wpAny (model prog w) A (call (.builtin "str.join") [.str ⟨#[]⟩ t, .ref D]) Q E s := by
  refine SC.join (x := ⟨#[]⟩) (texts := cs.map fun c => ⟨#[c]⟩) hl hm (PyProof.Rows.joinOk_of_weight ?_ (by decide)) fun t k => ?_
  · have : ∀ cs : List Nat, ((cs.map fun c => (⟨#[c]⟩ : Str)).map (·.length)).sum = cs.length := by
      intro cs
      induction cs with
      | nil => rfl
      | cons c r ih => rw [List.map_cons, List.map_cons, List.sum_cons, ih, List.length_cons]; show 1 + _ = _; omega
    rw [this, List.length_map]
    omega
  have e2 : Txt.join ⟨#[]⟩ (cs.map fun c => (⟨#[c]⟩ : Str)) = ⟨cs.toArray⟩ := by
    show PySem.Builtin.Str.glued _ _ = _
    rw [StrLaws.glued_eq_join]
    have gen : ∀ cs : List Nat, (Str.join ⟨#[]⟩ (cs.map fun c => (⟨#[c]⟩ : Str))).cps.toList = cs := by
      intro cs
      induction cs with
      | nil => rfl
      | cons c r ih =>
        cases r with
        | nil => rfl
        | cons c' r' =>
          show ((⟨#[c]⟩ : Str) ++ ⟨#[]⟩ ++ Str.join ⟨#[]⟩ ((c' :: r').map fun c => (⟨#[c]⟩ : Str))).cps.toList = _
          have : ∀ a b c : Str, (a ++ b ++ c).cps.toList = a.cps.toList ++ b.cps.toList ++ c.cps.toList := by
            intro a b c
            show ((a.cps ++ b.cps) ++ c.cps).toList = _
            simp
          rw [this, ih]
          simp
    have := gen cs
    cases hj : Str.join ⟨#[]⟩ (cs.map fun c => (⟨#[c]⟩ : Str)) with
    | mk cps => rw [hj] at this; simp only at this; rw [← this]
  rw [e2]
  exact hq t k
end
end Mine
end

section
set_option maxRecDepth 100000
namespace Mine
open PySem PySem.W PyProof.Rows

/-- the end of a turn: the ground may have grown; the iterators' own objects stand -/
def Turn (L : Addr) (own : List (Addr × Obj)) (wr : List Addr) (J : Heap → (Str → Option Value) → List (Addr × Obj) → Prop) (s₁ : Shared) (Q : Flow → Shared → Prop) (g : Heap) (f : Flow) (s₂ : Shared) : Prop :=
  match f with
  | .ret v => Q (.ret v) s₂
  | .brk => Q .next s₂
  | _ => ∃ g' h' tk m' news', s₂ = { s₁ with heap := h', toks := tk } ∧ Keep g g' ∧ Fr g' L h' m' ∧ News g' L h' (news' ++ own) ∧ (∀ p ∈ news', p.1 ∉ wr) ∧ J g' m' news'
theorem Turn.next {L : Addr} {own news' : List (Addr × Obj)} {wr : List Addr} {J : Heap → (Str → Option Value) → List (Addr × Obj) → Prop} {s₁ : Shared} {Q : Flow → Shared → Prop} {g g' h' : Heap} {tk : Nat} {m' : Str → Option Value}
    (k : Keep g g') (F : Fr g' L h' m') (N : News g' L h' (news' ++ own)) (hw : ∀ p ∈ news', p.1 ∉ wr) (hj : J g' m' news') : Turn L own wr J s₁ Q g .next { s₁ with heap := h', toks := tk } :=
  ⟨g', h', tk, m', news', rfl, k, F, N, hw, hj⟩

theorem News.swap {g h : Heap} {L : Addr} {a b : List (Addr × Obj)} (N : News g L h (a ++ b)) : News g L h (b ++ a) := fun p hp => N p (by
  rcases List.mem_append.mp hp with h | h
  · exact List.mem_append_right _ h
  · exact List.mem_append_left _ h)

section
variable {prog : Program} {w : World} {A : Around} {E : Value → Shared → Prop} {s : Shared} {env : Env} {target : Expr} {body : List Stmt} {Q : Flow → Shared → Prop}

theorem grow_loop {R : Result → Shared → Prop} {I : Addr} {fp wr : List Addr} {n : Nat} {P Md : Nat → Value → Heap → Prop} {St : Nat → Heap → Prop} {g : Heap} {m : Str → Option Value} {news : List (Addr × Obj)} (W : KTurns prog w A target I fp wr n P Md St)
    (live : ∀ i h, St i h → ∀ b ∈ wr, ∃ o, h.get? b = some o)
    (hfp : ∀ b ∈ fp, b ∉ wr → ∃ o, g.get? b = some o) (hLf : env.locals ∉ fp) (hwr : ∀ b ∈ wr, g.get? b = none) (hnw : ∀ p ∈ news, p.1 ∉ wr) (hst : St 0 s.heap) (F : Fr g env.locals s.heap m) (N : News g env.locals s.heap news)
    (J : Nat → Heap → (Str → Option Value) → List (Addr × Obj) → Prop) (h0 : J 0 g m news)
    (step : ∀ i v g₁ m₁ news₁ h₁ tk₁ own, i < n → P i v h₁ → J i g₁ m₁ news₁ → Keep g g₁ → (∀ p ∈ news₁, p.1 ∉ wr) → (∀ b ∈ wr, ∃ o, (b, o) ∈ own) → (∀ p ∈ own, p.1 ∈ wr) → St (i + 1) h₁ →
      Fr g₁ env.locals h₁ m₁ → News g₁ env.locals h₁ (news₁ ++ own) →
      wpAny (model prog w) A (assign target env v) (fun _ s₂ => wpAny (model prog w) A (execs body env)
        (Turn env.locals own wr (J (i + 1)) { s with heap := h₁, toks := tk₁ } (fun f s' => R (.ok f) s') g₁) (notedBy (model prog w) A env fun e s' => R (.error e) s') s₂) (notedBy (model prog w) A env fun e s' => R (.error e) s') { s with heap := h₁, toks := tk₁ })
    (hR : ∀ g' h' tk m' news', Keep g g' → Fr g' env.locals h' m' → News g' env.locals h' news' → J n g' m' news' → R (.ok .next) { s with heap := h', toks := tk }) :
    codeAny (model prog w) A (.forLoop target (.ref I) body [] env) R s := by
  have hLw : env.locals ∉ wr := fun h => hLf (W.sub _ h)
  refine codeAny_forLoop_any
    (fun k s' => ∃ g' h' tk m' news' i, s' = { s with heap := h', toks := tk } ∧ Keep g g' ∧ (∀ b ∈ wr, g'.get? b = none) ∧ St i h' ∧ Fr g' env.locals h' m' ∧ News g' env.locals h' news' ∧ (∀ p ∈ news', p.1 ∉ wr) ∧ J i g' m' news' ∧ i ≤ n ∧ k = n + 1 - i) ?_ (n + 1)
    ⟨g, s.heap, s.toks, m, news, 0, rfl, Keep.refl g, hwr, hst, F, N, hnw, h0, Nat.zero_le _, rfl⟩
  rintro k s' ⟨g', h', tk, m', news', i, rfl, kg, hwr', hst', F', N', hnw', hJ, hi, rfl⟩
  have old : ∀ b o, g'.get? b = some o → b ∉ wr := fun b o e hb => by rw [hwr' b hb] at e; cases e
  have next : ∀ h₁ : Heap, (∀ b o, b ∉ wr → h'.get? b = some o → h₁.get? b = some o) → Fr g' env.locals h₁ m' ∧ News g' env.locals h₁ news' := fun h₁ hk₁ =>
    ⟨⟨F'.ns.at' fun o e => hk₁ _ o hLw e, fun b o e => hk₁ b o (old b o e) (F'.keep b o e), F'.above⟩, fun p hp => ⟨hk₁ _ _ (hnw' p hp) (N' p hp).1, (N' p hp).2⟩⟩
  by_cases hlt : i < n
  · refine W.item i _ _ _ hlt hst' fun v h₁ tk₁ hMd hk₁ => ?_
    refine W.go i v _ _ _ hMd fun h₂ hP hst₂ hk₂ => ?_
    obtain ⟨F₂, N₂⟩ := next h₂ fun b o hb x => hk₂ b o hb (hk₁ b o hb x)
    have Nown : News g' env.locals h₂ (PyProof.Rows.ownOf g' fp h₂) := news_ownOf hLf
    have hown : ∀ b ∈ wr, ∃ o, (b, o) ∈ PyProof.Rows.ownOf g' fp h₂ := fun b hb => by
      obtain ⟨o, ho⟩ := live _ _ hst₂ b hb
      exact ⟨o, mem_ownOf (W.sub _ hb) (hwr' b hb) ho⟩
    have hsub : ∀ p ∈ PyProof.Rows.ownOf g' fp h₂, p.1 ∈ wr := fun p hp => Classical.byContradiction fun hn => by
      obtain ⟨o, ho⟩ := hfp _ (ownOf_sub p hp) hn
      have := (Nown p hp).2.2
      rw [kg _ _ ho] at this
      cases this
    refine wpAny_mono (step i v g' m' news' h₂ tk₁ (PyProof.Rows.ownOf g' fp h₂) hlt hP hJ kg hnw' hown hsub hst₂ F₂ (News.swap (Nown.append N₂))) (fun _ s₂ h₂' => wpAny_mono h₂' (fun f s₃ h₃ => ?_) fun _ _ e => e) fun _ _ e => e
    have fin : (∃ g'' h' tk m' news', s₃ = { ({ s with heap := h₂, toks := tk₁ } : Shared) with heap := h', toks := tk } ∧ Keep g' g'' ∧ Fr g'' env.locals h' m' ∧ News g'' env.locals h' (news' ++ PyProof.Rows.ownOf g' fp h₂) ∧ (∀ p ∈ news', p.1 ∉ wr) ∧ J (i + 1) g'' m' news') →
        ∃ m, m < n + 1 - i ∧ ∃ g' h' tk m' news' j, s₃ = { s with heap := h', toks := tk } ∧ Keep g g' ∧ (∀ b ∈ wr, g'.get? b = none) ∧ St j h' ∧ Fr g' env.locals h' m' ∧ News g' env.locals h' news' ∧ (∀ p ∈ news', p.1 ∉ wr) ∧ J j g' m' news' ∧ j ≤ n ∧ m = n + 1 - j := by
      rintro ⟨g'', h₃', tk₃, m₂, news₂, rfl, kg₂, F₃, N₃, ha₃, hJ₃⟩
      refine ⟨n + 1 - (i + 1), by omega, g'', h₃', tk₃, m₂, news₂, i + 1, rfl, kg.trans kg₂, fun b hb => ?_, ?_, F₃, fun p hp => N₃ p (List.mem_append_left _ hp), ha₃, hJ₃, hlt, rfl⟩
      · obtain ⟨o, ho⟩ := hown b hb
        exact (N₃ _ (List.mem_append_right _ ho)).2.2
      · refine W.frame _ _ _ hst₂ fun b hb o e => ?_
        cases hn : g'.get? b with
        | some o₀ =>
          have : o₀ = o := by have q := F₂.keep b o₀ hn; rw [e] at q; exact (Option.some.inj q).symm
          exact this ▸ F₃.keep b o₀ (kg₂ b o₀ hn)
        | none => exact (N₃ _ (List.mem_append_right _ (mem_ownOf hb hn e))).1
    cases f with
    | ret v => exact h₃
    | brk => exact h₃
    | cont => exact fin h₃
    | next => exact fin h₃
  · have hin : i = n := by omega
    subst hin
    refine W.done _ _ _ hst' fun h₁ tk₁ hk₁ => wpAny_execs_nil ?_
    obtain ⟨F₁, N₁⟩ := next h₁ hk₁
    exact hR g' h₁ tk₁ m' news' kg F₁ N₁ hJ

theorem go_name {prog : Program} {w : World} {A : Around} {x : Str} {px : Pos} {I v : Value} {s : Shared} {Q : Unit → Shared → Prop} {E : Value → Shared → Prop} (hq : Q () s) : wpAny (model prog w) A (letOwnedTupleGo (.Name x px) I v) Q E s := by
  exact wpAny_pure hq

end
end Mine
end

section
set_option maxRecDepth 100000
namespace Mine
open PySem PySem.W PyProof.Rows

section
variable {prog : Program} {w : World} {A : Around} {E : Value → Shared → Prop} {s : Shared} {cn : Str} {cs : Scope} {L aF : Addr} {ccd : Value} {body : List Stmt} {Q : Flow → Shared → Prop}

def RangeAt (h : Heap) (r : Addr) (a b : Int) : Prop := ∃ t u v, IsRange h r a b 1 t u v
theorem range1 {n : Int} {t : Tok} {Q : Value → Shared → Prop} (h : ∀ h' r tk, Keep s.heap h' → RangeAt h' r 0 n → Q (.ref r) { s with heap := h', toks := tk }) :
    wpAny (model prog w) A (call (.type "range") [.int n t]) Q E s := call_range_1 (h _ _ _ (Keep.push _ _) ⟨_, _, _, IsRange.new ..⟩)
theorem range2 {a b : Int} {t u : Tok} {Q : Value → Shared → Prop} (h : ∀ h' r tk, Keep s.heap h' → RangeAt h' r a b → Q (.ref r) { s with heap := h', toks := tk }) :
    wpAny (model prog w) A (call (.type "range") [.int a t, .int b u]) Q E s := call_range_2 (h _ _ _ (Keep.push _ _) ⟨_, _, _, IsRange.new ..⟩)

/-- a for over range(a, a + n) -/
theorem for_range {x : Str} {px pos : Pos} {iter : Expr} (hh : A.handled = none) (hx : (envOf cn cs L aF ccd).kindOf x = some .local) (hp : ((envOf cn cs L aF ccd).scope.kind == .class || ((envOf cn cs L aF ccd).scope.kind == .module && L != (envOf cn cs L aF ccd).globals)) = false)
    (J : Nat → Heap → (Str → Option Value) → List (Addr × Obj) → Prop)
    (h : wpAny (model prog w) A (eval iter (envOf cn cs L aF ccd)) (fun xv s₁ => Halt (∃ r a b g m news, xv = .ref r ∧ RangeAt s₁.heap r a b ∧ 0 ≤ a ∧ a ≤ 1000000 ∧ 0 ≤ b ∧ b ≤ 1000000 ∧ Fr g L s₁.heap m ∧ News g L s₁.heap news ∧ J 0 g m news ∧
      (∀ i t g₁ m₁ news₁ h₁ tk₁ own wr, i < (b - a).toNat → J i g₁ m₁ news₁ → Keep g g₁ → (∀ p ∈ news₁, p.1 ∉ wr) → (∀ q ∈ wr, ∃ o, (q, o) ∈ own) → (∀ p ∈ own, p.1 ∈ wr) →
        Fr g₁ L h₁ (fun y => if y = x then some (.int (a + (i : Int)) t) else m₁ y) → News g₁ L h₁ (news₁ ++ own) →
        wpAny (model prog w) A (execs body (envOf cn cs L aF ccd)) (Turn L own wr (J (i + 1)) { s₁ with heap := h₁, toks := tk₁ } Q g₁) (fun _ _ => False) { s₁ with heap := h₁, toks := tk₁ }) ∧
      (∀ g' h' tk m' news', Keep g g' → Fr g' L h' m' → News g' L h' news' → J (b - a).toNat g' m' news' → Q .next { s₁ with heap := h', toks := tk }))) (fun _ _ => False) s)
    (hs : ∀ z, foldedSetIterable iter (envOf cn cs L aF ccd) z = pure z := by intro _; rfl) :
    wpAny (model prog w) A (exec (.For (.Name x px) iter body [] pos) (envOf cn cs L aF ccd)) Q (fun _ _ => False) s := by
  refine wpAny_For (wpAny_mono h (fun xv s₁ h₁ => ?_) fun _ _ e => e) hs
  obtain ⟨r, a, b, g, m, news, rfl, ⟨t, u, v, hr⟩, ha0, ha1, hb0, hb1, F, N, h0, step, done⟩ := h₁
  refine wpAny_pyIter_range hr (small_one (by omega) (by omega) (by omega) (by omega)) ?_
  have W := KTurns.ofWalks (target := .Name x px) (Walks.range (prog := prog) (w := w) hh s₁.heap.objs.size a 1 (b - a).toNat) fun _ _ _ _ _ _ hq => go_name hq
  refine grow_loop (R := fun r s' => match r with | .ok f => Q f s' | .error e => cameBackBy (model prog w) A (envOf cn cs L aF ccd) (fun _ _ => False) e s') W ?_ ?_ ?_ ?_ ?_ ?_ (F.push _)
    (fun p hp => ⟨Heap.get?_push_of_some _ (N p hp).1, (N p hp).2⟩) J h0 ?_ ?_
  · rintro i h ho b hb
    rw [List.mem_singleton.mp hb]; exact ⟨_, ho⟩
  · intro b hb hn
    exact absurd hb hn
  · intro hm
    exact absurd F.ns.lt ((List.mem_singleton.mp hm) ▸ Nat.lt_irrefl _)
  · intro b hb
    rw [List.mem_singleton.mp hb]
    exact next_is_new F
  · intro p hp hI
    exact absurd (Heap.lt_size (N p hp).1) ((List.mem_singleton.mp hI) ▸ Nat.lt_irrefl _)
  · show IsRangeIter _ _ (a + ((0 : Nat) : Int) * 1) (((b - a).toNat : Int) - ((0 : Nat) : Int)) 1
    rw [show a + ((0 : Nat) : Int) * 1 = a by omega, show (((b - a).toNat : Int) - ((0 : Nat) : Int)) = Builtin.Range.rangeSize a b 1 by rw [rangeSize_nat]; omega]
    exact Heap.get?_push_size _ rfl
  · rintro i v g₁ m₁ news₁ h₁ tk₁ own hi ⟨t, rfl⟩ hJ kg hnw hown hsub hst F₁ N₁
    refine wpAny_passesOwn PassesOwn.never (wpAny_assign_Name (wpAny_storeName_local hx F₁.ns (fun h₂ hn₂ hs₂ => ?_) hp))
    refine wpAny_passesOwn PassesOwn.never (step i t g₁ m₁ news₁ h₂ _ own _ hi hJ kg hnw hown hsub ?_ (N₁.set hs₂))
    have F₂ := F₁.set hn₂ hs₂
    rw [Int.mul_one] at F₂
    exact F₂
  · exact fun g' h' tk m' news' kg F' N' hJ => done g' h' tk m' news' kg F' N' hJ

/-- a for over enumerate(list), two names -/
theorem for_enum {x y : Str} {px py pt pos : Pos} {k : Nat} {iter : Expr} (hh : A.handled = none) (hx : (envOf cn cs L aF ccd).kindOf x = some .local) (hy : (envOf cn cs L aF ccd).kindOf y = some .local) (hp : ((envOf cn cs L aF ccd).scope.kind == .class || ((envOf cn cs L aF ccd).scope.kind == .module && L != (envOf cn cs L aF ccd).globals)) = false)
    (J : Nat → Heap → (Str → Option Value) → List (Addr × Obj) → Prop)
    (h : wpAny (model prog w) A (eval iter (envOf cn cs L aF ccd)) (fun xv s₁ => Halt (∃ e it l items g m news, xv = .ref e ∧ IsEnum s₁.heap e it 0 .none ∧ s₁.heap.IsListIter it l 0 ∧ e ≠ it ∧ g.IsList l items ∧ g.get? e = none ∧ g.get? it = none ∧ e ≠ L ∧ it ≠ L ∧ (∀ p ∈ news, p.1 ≠ e ∧ p.1 ≠ it) ∧
      Fr g L s₁.heap m ∧ News g L s₁.heap news ∧ J 0 g m news ∧
      (∀ i t v g₁ m₁ news₁ h₁ tk₁ own wr, items[i]? = some v → J i g₁ m₁ news₁ → Keep g g₁ → (∀ p ∈ news₁, p.1 ∉ wr) → (∀ q ∈ wr, ∃ o, (q, o) ∈ own) → (∀ p ∈ own, p.1 ∈ wr) →
        Fr g₁ L h₁ (fun z => if z = y then some v else if z = x then some (.int (i : Int) t) else m₁ z) → News g₁ L h₁ (news₁ ++ own) →
        wpAny (model prog w) A (execs body (envOf cn cs L aF ccd)) (Turn L own wr (J (i + 1)) { s₁ with heap := h₁, toks := tk₁ } Q g₁) (fun _ _ => False) { s₁ with heap := h₁, toks := tk₁ }) ∧
      (∀ g' h' tk m' news', Keep g g' → Fr g' L h' m' → News g' L h' news' → J items.size g' m' news' → Q .next { s₁ with heap := h', toks := tk }))) (fun _ _ => False) s)
    (hs : ∀ z, foldedSetIterable iter (envOf cn cs L aF ccd) z = pure z := by intro _; rfl) :
    wpAny (model prog w) A (exec (.For (.Tuple [.Name x px, .Name y py] k pt) iter body [] pos) (envOf cn cs L aF ccd)) Q (fun _ _ => False) s := by
  refine wpAny_For (wpAny_mono h (fun xv s₁ h₁ => ?_) fun _ _ e => e) hs
  obtain ⟨e, it, l, items, g, m, news, rfl, he, hit, hei, hl, hge, hgi, hLe, hLi, hnews, F, N, h0, step, done⟩ := h₁
  have hle : l ≠ e := by rintro rfl; obtain ⟨o, ho, _⟩ := hl; rw [ho] at hge; cases hge
  have hli : l ≠ it := by rintro rfl; obtain ⟨o, ho, _⟩ := hl; rw [ho] at hgi; cases hgi
  have WT := WalksT.enumerate (prog := prog) (w := w) hh e it l hei hle hli items
  have hst : (∃ old, IsEnum s₁.heap e it 0 old) ∧ s₁.heap.IsListIter it l 0 ∧ s₁.heap.IsList l items := ⟨⟨_, he⟩, hit, hl.at fun o x => F.keep l o x⟩
  refine WT.self 0 _ _ _ hst ?_
  have W := KTurns.ofWalksU (elts := [.Name x px, .Name y py]) (k := k) (pos := pt) WT.toU
  refine grow_loop (R := fun r s' => match r with | .ok f => Q f s' | .error e => cameBackBy (model prog w) A (envOf cn cs L aF ccd) (fun _ _ => False) e s') W ?_ ?_ ?_ ?_ ?_ hst F N J h0 ?_ ?_
  · rintro i h ⟨⟨old, h1⟩, ⟨o, h2, _⟩, _⟩ b hb
    rcases List.mem_cons.mp hb with rfl | hb
    · exact ⟨_, h1⟩
    · rw [List.mem_singleton.mp hb]; exact ⟨o, h2⟩
  · intro b hb hn
    rcases List.mem_cons.mp hb with rfl | hb
    · exact absurd (List.mem_cons_self ..) hn
    · rcases List.mem_cons.mp hb with rfl | hb
      · exact absurd (List.mem_cons_of_mem _ (List.mem_singleton.mpr rfl)) hn
      · rw [List.mem_singleton.mp hb]
        obtain ⟨o, ho, _⟩ := hl
        exact ⟨o, ho⟩
  · intro hm
    rcases List.mem_cons.mp hm with q | hm
    · exact hLe q.symm
    · rcases List.mem_cons.mp hm with q | hm
      · exact hLi q.symm
      · obtain ⟨o, ho, _⟩ := hl
        exact absurd (Nat.lt_of_lt_of_le (Heap.lt_size ho) F.above) ((List.mem_singleton.mp hm) ▸ Nat.lt_irrefl _)
  · intro b hb
    rcases List.mem_cons.mp hb with rfl | hb
    · exact hge
    · rw [List.mem_singleton.mp hb]; exact hgi
  · intro p hp hI
    rcases List.mem_cons.mp hI with q | hI
    · exact (hnews p hp).1 q
    · exact (hnews p hp).2 (List.mem_singleton.mp hI)
  · rintro i v g₁ m₁ news₁ h₁ tk₁ own hi ⟨T, vals, rfl, ⟨t, v, hv, rfl⟩, hT⟩ hJ kg hnw hown hsub hst F₁ N₁
    refine wpAny_passesOwn PassesOwn.never ?_
    refine wpAny_assign_Tuple hh hT rfl rfl fun h₃ hx₃ => ?_
    replace hx₃ : Heap.ExtBut h₁.objs.size h₁ h₃ := hx₃
    have up₃ : Keep h₁ h₃ := fun b o z => hx₃ b o (Nat.ne_of_lt (Heap.lt_size z)) z
    have F₃ := F₁.keptAll up₃
    have N₃ := N₁.grown up₃
    show wpAny _ A (do holding [v] (assign (.Name x px) (envOf cn cs L aF ccd) (.int i t)); do holding [] (assign (.Name y py) (envOf cn cs L aF ccd) v); pure ()) _ _ _
    refine wpAny_bind (wpAny_holding (wpAny_assign_Name (wpAny_storeName_local hx F₃.ns (fun h₄ hn₄ hs₄ => ?_) hp)))
    replace hs₄ : Heap.SameBut L h₃ h₄ := hs₄
    have F₄ := F₃.set hn₄ hs₄
    refine wpAny_bind (wpAny_holding (wpAny_assign_Name (wpAny_storeName_local hy F₄.ns (fun h₅ hn₅ hs₅ => wpAny_pure ?_) hp)))
    replace hs₅ : Heap.SameBut L h₄ h₅ := hs₅
    exact wpAny_passesOwn PassesOwn.never (step i t v g₁ m₁ news₁ h₅ _ own _ hv hJ kg hnw hown hsub (F₄.set hn₅ hs₅) ((N₃.set hs₄).set hs₅))
  · exact fun g' h' tk m' news' kg F' N' hJ => done g' h' tk m' news' kg F' N' hJ
/-- a for over a list that stands on the ground -/
theorem for_list {x : Str} {px pos : Pos} {iter : Expr} (hh : A.handled = none) (hx : (envOf cn cs L aF ccd).kindOf x = some .local) (hp : ((envOf cn cs L aF ccd).scope.kind == .class || ((envOf cn cs L aF ccd).scope.kind == .module && L != (envOf cn cs L aF ccd).globals)) = false)
    (J : Nat → Heap → (Str → Option Value) → List (Addr × Obj) → Prop)
    (h : wpAny (model prog w) A (eval iter (envOf cn cs L aF ccd)) (fun xv s₁ => Halt (∃ l items g m news, xv = .ref l ∧ g.IsList l items ∧ Fr g L s₁.heap m ∧ News g L s₁.heap news ∧ J 0 g m news ∧
      (∀ i v g₁ m₁ news₁ h₁ tk₁ own wr, items[i]? = some v → J i g₁ m₁ news₁ → Keep g g₁ → (∀ p ∈ news₁, p.1 ∉ wr) → (∀ b ∈ wr, ∃ o, (b, o) ∈ own) → (∀ p ∈ own, p.1 ∈ wr) →
        Fr g₁ L h₁ (fun y => if y = x then some v else m₁ y) → News g₁ L h₁ (news₁ ++ own) →
        wpAny (model prog w) A (execs body (envOf cn cs L aF ccd)) (Turn L own wr (J (i + 1)) { s₁ with heap := h₁, toks := tk₁ } Q g₁) (fun _ _ => False) { s₁ with heap := h₁, toks := tk₁ }) ∧
      (∀ g' h' tk m' news', Keep g g' → Fr g' L h' m' → News g' L h' news' → J items.size g' m' news' → Q .next { s₁ with heap := h', toks := tk }))) (fun _ _ => False) s)
    (hs : ∀ z, foldedSetIterable iter (envOf cn cs L aF ccd) z = pure z := by intro _; rfl) :
    wpAny (model prog w) A (exec (.For (.Name x px) iter body [] pos) (envOf cn cs L aF ccd)) Q (fun _ _ => False) s := by
  refine wpAny_For (wpAny_mono h (fun xv s₁ h₁ => ?_) fun _ _ e => e) hs
  obtain ⟨l, items, g, m, news, rfl, hl, F, N, h0, step, done⟩ := h₁
  have hls : s₁.heap.IsList l items := hl.at fun o e => F.keep l o e
  obtain ⟨ol, hol, _⟩ := id hl
  have hlt : l < g.objs.size := Heap.lt_size hol
  have hne : l ≠ s₁.heap.objs.size := Nat.ne_of_lt (Nat.lt_trans (Nat.lt_of_lt_of_le hlt F.above) F.ns.lt)
  refine wpAny_pyIter_list hls ?_
  have W := KTurns.ofWalks (target := .Name x px) (Walks.list (prog := prog) (w := w) hh s₁.heap.objs.size l hne items) fun _ _ _ _ _ _ hq => go_name hq
  refine grow_loop (R := fun r s' => match r with | .ok f => Q f s' | .error e => cameBackBy (model prog w) A (envOf cn cs L aF ccd) (fun _ _ => False) e s') W ?_ ?_ ?_ ?_ ?_ ⟨⟨_, Heap.get?_push_size _ rfl, rfl, rfl⟩, hls.at fun o e => Heap.get?_push_of_some _ e⟩ (F.push _)
    (fun p hp => ⟨Heap.get?_push_of_some _ (N p hp).1, (N p hp).2⟩) J h0 ?_ ?_
  · rintro i h ⟨⟨o, ho, _⟩, _⟩ b hb
    rw [List.mem_singleton.mp hb]; exact ⟨o, ho⟩
  · intro b hb hn
    rcases List.mem_cons.mp hb with rfl | hb
    · exact absurd (List.mem_singleton.mpr rfl) hn
    · rw [List.mem_singleton.mp hb]; exact ⟨_, hol⟩
  · intro hm
    rcases List.mem_cons.mp hm with e | hm
    · exact absurd F.ns.lt (e ▸ Nat.lt_irrefl _)
    · exact absurd (Nat.lt_of_lt_of_le hlt F.above) ((List.mem_singleton.mp hm) ▸ Nat.lt_irrefl _)
  · intro b hb
    rw [List.mem_singleton.mp hb]
    exact next_is_new F
  · intro p hp hI
    exact absurd (Heap.lt_size (N p hp).1) ((List.mem_singleton.mp hI) ▸ Nat.lt_irrefl _)
  · intro i v g₁ m₁ news₁ h₁ tk₁ own hi hP hJ kg hnw hown hsub hst F₁ N₁
    refine wpAny_passesOwn PassesOwn.never (wpAny_assign_Name (wpAny_storeName_local hx F₁.ns (fun h₂ hn₂ hs₂ => ?_) hp)) |> fun z => wpAny_mono z (fun _ _ y => y) fun _ _ y => y
    exact wpAny_passesOwn PassesOwn.never (step i v g₁ m₁ news₁ h₂ _ own _ hP hJ kg hnw hown hsub (F₁.set hn₂ hs₂) (N₁.set hs₂))
  · exact fun g' h' tk m' news' kg F' N' hJ => done g' h' tk m' news' kg F' N' hJ
end
end Mine
end

section
set_option maxRecDepth 100000
namespace Mine
open PySem PySem.W PyProof.Rows

section
variable {prog : Program} {w : World} {A : Around} {E : Value → Shared → Prop} {s : Shared} {g : Heap} {L D : Addr} {m : Str → Option Value} {rest : List (Addr × Obj)}

theorem look_ne {c : Prop} [Decidable c] {α : Type} {a b r : α} (h : ¬ c) (e : b = r) : (if c then a else b) = r := by rw [if_neg h]; exact e
/-- apart from the iterators -/
theorem off_own {wr : List Addr} {own news : List (Addr × Obj)} (hsub : ∀ p ∈ own, p.1 ∈ wr) (hnw : ∀ p ∈ news, p.1 ∉ wr) {q : Addr × Obj} (hq : q ∈ news) : ∀ p ∈ own, p.1 ≠ q.1 :=
  fun p hp e => hnw q hq (e ▸ hsub p hp)

theorem append_hd {its : Array Value} {n : Nat} {x : Value} {Q : Value → Shared → Prop} (F : Fr g L s.heap m) (N : News g L s.heap ((D, listOf its n) :: rest)) (hne : ∀ p ∈ rest, p.1 ≠ D) (hsz : its.size ≤ sizeLine)
    (h : ∀ h', Fr g L h' m → News g L h' ((D, listOf (its.push x) (n + 1)) :: rest) → Q .none { s with heap := h' }) : wpAny (model prog w) A (call (.builtin "list.append") [.ref D, x]) Q E s :=
  append_K F N (Upd.head hne) h hsz

theorem method_append {its : Array Value} {n : Nat} {pl : Sem Bool} {Q : Value × List Value → Shared → Prop} (ho : s.heap.get? D = some (listOf its n)) (h : Q (.builtin "list.append", [.ref D]) s) :
    wpAny (model prog w) A (getMethod (.ref D) (Str.ofString "append") pl) Q E s := Calls.getMethod_list_append ho rfl rfl h

theorem set_hd {its : Array Value} {n : Nat} {k : Int} {t : Tok} {v : Value} {Q : Unit → Shared → Prop} (F : Fr g L s.heap m) (N : News g L s.heap ((D, listOf its n) :: rest)) (hne : ∀ p ∈ rest, p.1 ≠ D) (h0 : 0 ≤ k) (hfit : k < 2 ^ 63) (hn : k < its.size)
    (h : ∀ h', Fr g L h' m → News g L h' ((D, listOf (its.setIfInBounds k.toNat v) n) :: rest) → Q () { s with heap := h' }) : wpAny (model prog w) A (setItem (.ref D) (.int k t) v) Q E s := by
  have z := N (D, listOf its n) (List.mem_cons_self ..)
  refine ki_setAt z.1 h0 hfit hn (h _ (F.change (Heap.SameBut.update ..) z.2.1 z.2.2) ?_)
  refine news_set (pre := []) N (fun _ hp => nomatch hp) hne (Heap.SameBut.update ..) ?_
  rw [Heap.get?_update_self _ z.1 rfl]
  simp [Obj.mapSeq]

theorem isList_of {its : Array Value} {n : Nat} {h : Heap} (ho : h.get? D = some (listOf its n)) : h.IsList D its := ⟨_, ho, rfl, n, rfl⟩

/-- an item of a list, of a tuple, at a place within it -/
theorem item_list {value slice : Expr} {its : Array Value} {k : Int} {u : Tok} {v : Value} {Q : Value → Shared → Prop} (hl : s.heap.IsList D its) (h0 : 0 ≤ k) (hfit : k < 2 ^ 63) (hx : its[k.toNat]? = some v) (h : Q v s)
    (hs : subscripted slice false (.ref D) (.int k u) = operate [.ref D, .int k u] (getItem (.ref D) (.int k u)) := by with_unfolding_all rfl) :
    wpAny (model prog w) A (subscriptTail value slice (.ref D) (.int k u)) Q E s :=
  tail_any hl.typeIs slot_list_getitem.lookup (wpAny_getItem_list hl h0 hfit hx h) hs
theorem item_tup {value slice : Expr} {its : Array Value} {k : Int} {u : Tok} {v : Value} {Q : Value → Shared → Prop} (hl : IsTup s.heap D its) (h0 : 0 ≤ k) (hfit : k < 2 ^ 63) (hx : its[k.toNat]? = some v) (h : Q v s)
    (hs : subscripted slice false (.ref D) (.int k u) = operate [.ref D, .int k u] (getItem (.ref D) (.int k u)) := by with_unfolding_all rfl) :
    wpAny (model prog w) A (subscriptTail value slice (.ref D) (.int k u)) Q E s := by
  have hk : k.toNat < its.size := by
    cases hh : its[k.toNat]? with
    | none => rw [hh] at hx; cases hx
    | some z => exact (Array.getElem?_eq_some_iff.mp hh).1
  refine tail_any (T := "tuple") (id := "tuple.__getitem__") ?_ F.slot_tuple_getitem.lookup (PyProof.Rows.getItem_tuple hl (by omega) hfit (j := k.toNat) ?_ hx h) hs
  · exact hl.typeIs
  · unfold seqIndex?
    simp [h0]
    omega
end
end Mine
end

section
set_option maxRecDepth 100000
namespace Mine
open PySem PySem.W PyProof.Rows

section
variable {prog : Program} {w : World} {A : Around} {E : Value → Shared → Prop} {s : Shared} {cn : Str} {cs scope : Scope} {L a C : Addr} {ccd : Value} {pos px pe pv pb : Pos} {x : Str}

theorem ints_snoc : ∀ {vs : List Value} {ns : List Int}, IntsAre vs ns → ∀ (k : Int) (u : Tok), IntsAre (vs ++ [.int k u]) (ns ++ [k])
  | _, _, .nil, k, u => .cons k u .nil
  | _, _, .cons n t h, k, u => .cons n t (ints_snoc h k u)
theorem ints_item {vs : Array Value} {ns : List Int} (h : IntsAre vs.toList ns) {i : Nat} {v : Value} (hv : vs[i]? = some v) : ∃ k u, v = .int k u := by
  rw [← Array.getElem?_toList] at hv
  generalize vs.toList = l at h hv
  induction h generalizing i with
  | nil => simp at hv
  | cons n t _ ih =>
    cases i with
    | zero => simp at hv; exact ⟨n, t, hv.symm⟩
    | succ i => exact ih (by simpa using hv)
theorem ints_set {vs : Array Value} {ns : List Int} (h : IntsAre vs.toList ns) (i : Nat) (k : Int) (u : Tok) : IntsAre (vs.setIfInBounds i (.int k u)).toList (ns.set i k) := by
  rw [Array.toList_setIfInBounds]
  generalize vs.toList = l at h
  induction h generalizing i with
  | nil => exact .nil
  | cons n t h ih =>
    cases i with
    | zero => exact .cons k u h
    | succ i => exact .cons n t (ih i)

/-- a sign of the menu -/
def OfMenu (menu : Str) (y : Value) : Prop := ∃ c u, c ∈ menu.cps.toList ∧ y = .str ⟨#[c]⟩ u
theorem menu_texts {menu : Str} {R : Value → Value → Prop} : ∀ {vs ys : List Value}, Paired R vs ys → (∀ (j : Nat) v y, vs[j]? = some v → R v y → OfMenu menu y) →
    ∃ (l : List (Str × Tok)) (cs : List Nat), ys = strValues l ∧ l.map (·.1) = cs.map (fun c => ⟨#[c]⟩) ∧ cs.length = vs.length ∧ ∀ c ∈ cs, c ∈ menu.cps.toList := by
  intro vs ys hF
  induction hF with
  | nil => intro _; exact ⟨[], [], rfl, rfl, rfl, fun _ h => nomatch h⟩
  | cons h _ ih =>
    intro hp
    obtain ⟨c, u, hc, rfl⟩ := hp 0 _ _ rfl h
    obtain ⟨l, cs, rfl, h2, h3, h4⟩ := ih fun j v y hj => hp (j + 1) v y hj
    exact ⟨(⟨#[c]⟩, u) :: l, c :: cs, rfl, by simp [h2], by simp [h3], fun d hd => by
      rcases List.mem_cons.mp hd with rfl | hd
      · exact hc
      · exact h4 d hd⟩

/-- [menu[x % d] for x in ints] -/
theorem comp_menu {iter : Expr} {menu : Str} {d : Nat} {k1 k2 : Nat} {p1 p2 : Pos} {Q : Value → Shared → Prop} (hh : A.handled = none) (hfree : ∀ y ∈ scope.names, y.2 ≠ .free) (hcell : ∀ y ∈ scope.names, y.2 ≠ .cell) (hk : scope.kind = .function)
    (hnames : ∀ y ∈ scope.names, y.2 = .local → scope.names.lookup y.1 = some .local) (hx : scope.names.lookup x = some .local) (hd' : (x == ("__debug__" : Str)) = false)
    (hd : 0 < d) (hm : menu.cps.size = d) (hds : d < 1000)
    (hi : wpAny (model prog w) A (eval iter (envOf cn cs L a ccd)) (fun v s₁ => Halt (∃ l items ns, v = .ref l ∧ s₁.heap.IsList l items ∧ IntsAre items.toList ns ∧ items.size ≤ sizeLine ∧
      ∀ D h' tk (l : List (Str × Tok)) (cs : List Nat), Keep s₁.heap h' → h'.IsList D (strValues l).toArray → l.map (·.1) = cs.map (fun c => ⟨#[c]⟩) → cs.length = items.size → (∀ c ∈ cs, c ∈ menu.cps.toList) → Q (.ref D) { s₁ with heap := h', toks := tk })) E s)
    (hs : ∀ z, foldedSetIterable iter (envOf cn cs L a ccd) z = pure z := by intro _; rfl) :
    wpAny (model prog w) A (eval (.ListComp (.Subscript (.Constant (.str menu) k1 p1) (.BinOp (.Name x pe) .Mod (.Constant (.int (d : Int)) k2 p2) pb) pv) [⟨.Name x px, iter, [], 0⟩] scope pos) (envOf cn cs L a ccd)) Q E s := by
  refine wpAny_ListComp_walk (fun _ => true) (fun v y => (∃ n t, v = .int n t) → OfMenu menu y) hfree hcell hk hnames hx (wpAny_mono hi (fun v s₁ h => ?_) fun _ _ x => x) hs
  obtain ⟨l, items, ns, rfl, hl, hints, hsz, hq⟩ := h
  have hlt : l < s₁.heap.objs.size := by obtain ⟨o, ho, _⟩ := hl; exact Heap.lt_size ho
  refine wpAny_pyIter_list hl ?_
  refine ⟨_, _, _, _, _, _, rfl, Walks.list hh _ l (Nat.ne_of_lt hlt) items, hsz, ⟨⟨_, Heap.get?_push_size _ rfl, rfl, rfl⟩, hl.at fun o e => Heap.get?_push_of_some _ e⟩, ?_, ?_, ?_⟩
  · intro b hb
    rcases List.mem_cons.mp hb with rfl | hb
    · simp [Heap.size_push]
    · rw [List.mem_singleton.mp hb, Heap.size_push]
      exact Nat.lt_succ_of_lt hlt
  · refine ⟨fun C i v s₃ m₃ E' _ _ _ _ _ => wpAny_pure ⟨rfl, s₃.heap, s₃.toks, rfl, fun _ _ e => e⟩, ?_⟩
    rintro C i v s₃ m₃ E' hv - hC hm' hkeep -
    obtain ⟨n, t, rfl⟩ := ints_item hints hv
    refine Subscript_ (wpAny_Constant_str (wpAny_BinOp ?_))
    refine wpAny_Name (wpAny_loadName_local (env := compEnv scope C (envOf cn cs L a ccd)) hk hx hC hm' ?_) hd'
    refine wpAny_Constant_int ?_
    refine AutoIntOps.mod_1 (by simp; omega) ?_
    have hpos : (0 : Int) < d := by omega
    have e0 : n.fmod d = n % d := Int.fmod_eq_emod_of_nonneg _ (by omega)
    have hlo : 0 ≤ n.fmod d := by rw [e0]; exact Int.emod_nonneg _ (by omega)
    have hhi : n.fmod d < d := by rw [e0]; exact Int.emod_lt_of_pos _ hpos
    have hj : (n.fmod d).toNat < menu.cps.size := by omega
    refine subscriptTail_builtin (typeIs_str _ _ _) F.slot_str_getitem.lookup ?_
    refine P.getItem_str (c := menu.cps[(n.fmod d).toNat]) ?_ ?_ ⟨fun _ => ⟨_, _, Array.getElem_mem_toList hj, rfl⟩, s₃.heap, _, rfl, fun _ _ e => e⟩
    · simp; omega
    · have : seqIndex? (n.fmod d) menu.length = some (n.fmod d).toNat := by
        unfold seqIndex?
        have : menu.length = menu.cps.size := rfl
        simp [hlo]
        omega
      rw [this]
      simp [hj]
  · intro D h' tk ys vs hD hl' _ hlen hP hF hkeep
    have kp : Keep s₁.heap h' := fun b o' e => hkeep b o' (fun hb => by rw [List.mem_singleton.mp hb] at e; rw [heap_next] at e; cases e) (Heap.get?_push_of_some _ e)
    rw [List.filter_eq_self.mpr (fun _ _ => rfl)] at hF
    obtain ⟨l', cs', h1, h2, h3, h4⟩ := menu_texts (menu := menu) hF fun j v y hj hr => hr (ints_item hints (hP j v hj))
    refine hq D h' tk l' cs' kp ?_ h2 (h3.trans hlen) h4
    have : ys = (strValues l').toArray := by rw [← h1]
    rw [← this]; exact hl'
end
end Mine
end

section
set_option maxRecDepth 100000
namespace Mine
open PySem PySem.W PyProof.Rows

/-- what a def holds -/
def FnAt (K : Frag) (a : Addr) (body : List Stmt) (scope : Scope) : Prop := ∃ oc od fd osl, K.lookup a = some ⟨oc, od, .func fd, osl⟩ ∧ fd.body = .stmts body ∧ fd.scope = scope
theorem FnAt.inj {K : Frag} {a : Addr} {b b' : List Stmt} {c c' : Scope} : FnAt K a b c → FnAt K a b' c' → b = b' ∧ c = c' := by
  rintro ⟨oc, od, fd, osl, h, h1, h2⟩ ⟨oc', od', fd', osl', h', h1', h2'⟩
  rw [h] at h'
  injection h' with h'
  simp only [Obj.mk.injEq, Data.func.injEq] at h'
  obtain ⟨-, -, rfl, -⟩ := h'
  rw [h1] at h1'
  injection h1' with e
  exact ⟨e, h2.symm.trans h2'⟩
def nth : List Stmt → Nat → Stmt
  | a :: _, 0 => a
  | _ :: r, n + 1 => nth r n
  | [], _ => .Pass default
def forBody : Stmt → List Stmt
  | .For _ _ b _ _ => b
  | _ => []
/-- what a piece's three written forms are -/
def tupO (x y z : Str) (t₁ t₂ t₃ : Tok) : Obj := { cls := .type "tuple", data := .seq #[.str x t₁, .str y t₂, .str z t₃] }
def tupI (x y z : Int) (t₁ t₂ t₃ : Tok) : Obj := { cls := .type "tuple", data := .seq #[.int x t₁, .int y t₂, .int z t₃] }
theorem ne_trip {prog : Program} {w : World} {A : Around} {E : Value → Shared → Prop} {s : Shared} {a b : Addr} {x y z x' y' z' : Str} {t₁ t₂ t₃ u₁ u₂ u₃ : Tok} {Q : Value → Shared → Prop} (ha : s.heap.get? a = some (tupO x y z t₁ t₂ t₃)) (hb : s.heap.get? b = some (tupO x' y' z' u₁ u₂ u₃)) (hu : A.units < cLine)
    (h : Q (.bool (!(x == x' && y == y' && z == z'))) s) : wpAny (model prog w) A (compareOp .NotEq (.ref a) (.ref b)) Q E s := by
  have R := SeqAt.RcNeAt.tuples (A := A) (s := s) (l := a) (b := b) (items := #[.str x t₁, .str y t₂, .str z t₃]) (items2 := #[.str x' u₁, .str y' u₂, .str z' u₃]) (e := fun j => match j with | 0 => x == x' | 1 => y == y' | _ => z == z')
    ⟨_, ha, rfl, _, rfl⟩ ⟨_, hb, rfl, _, rfl⟩ hu (fun j h1 h2 => by
      match j, h1 with
      | 0, _ => exact SeqAt.EqAt.str_str x t₁ x' u₁
      | 1, _ => exact SeqAt.EqAt.str_str y t₂ y' u₂
      | 2, _ => exact SeqAt.EqAt.str_str z t₃ z' u₃
      | n + 3, h => exact absurd h (by simp))
  refine R prog w E Q ?_
  have e : (!((List.range (min (#[Value.str x t₁, .str y t₂, .str z t₃] : Array Value).size (#[Value.str x' u₁, .str y' u₂, .str z' u₃] : Array Value).size)).all (fun j => match j with | 0 => x == x' | 1 => y == y' | _ => z == z') && (#[Value.str x t₁, .str y t₂, .str z t₃] : Array Value).size == (#[Value.str x' u₁, .str y' u₂, .str z' u₃] : Array Value).size)) = !(x == x' && y == y' && z == z') := by
    show (!((List.range 3).all _ && true)) = _
    rw [show List.range 3 = [0, 1, 2] from rfl]
    simp [Bool.and_assoc]
  rw [e]
  exact h
theorem ne_trip_same {prog : Program} {w : World} {A : Around} {E : Value → Shared → Prop} {s : Shared} {a b : Addr} {x y z x' y' z' : Str} {t₁ t₂ t₃ u₁ u₂ u₃ : Tok} {Q : Value → Shared → Prop} (ha : s.heap.get? a = some (tupO x y z t₁ t₂ t₃)) (hb : s.heap.get? b = some (tupO x' y' z' u₁ u₂ u₃)) (hu : A.units < cLine)
    (ex : x = x') (ey : y = y') (ez : z = z') (h : Q (.bool false) s) : wpAny (model prog w) A (compareOp .NotEq (.ref a) (.ref b)) Q E s := by
  subst ex ey ez
  refine ne_trip ha hb hu ?_
  simpa using h
/-- a sign of a text -/
theorem item_text {prog : Program} {w : World} {A : Around} {E : Value → Shared → Prop} {s : Shared} {value slice : Expr} {x : List Nat} {k : Nat} {t u : Tok} {Q : Value → Shared → Prop} (hk : k < x.length) (hfit : x.length ≤ 1000000)
    (h : ∀ t' tk, Q (.str ⟨#[x.getD k 0]⟩ t') { s with toks := tk })
    (hs : subscripted slice false (.str ⟨x.toArray⟩ t) (.int (k : Int) u) = operate [.str ⟨x.toArray⟩ t, .int (k : Int) u] (getItem (.str ⟨x.toArray⟩ t) (.int (k : Int) u)) := by with_unfolding_all rfl)
    (ht : ∀ r, letTemporaryGo value (.str ⟨x.toArray⟩ t) r = pure () := by intro _; with_unfolding_all rfl) :
    wpAny (model prog w) A (subscriptTail value slice (.str ⟨x.toArray⟩ t) (.int (k : Int) u)) Q E s := by
  refine subscriptTail_builtin (typeIs_str _ _ _) F.slot_str_getitem.lookup ?_ hs ht
  refine P.getItem_str (c := x.getD k 0) (by simp; omega) ?_ (h _ _)
  have e : seqIndex? (k : Int) (⟨x.toArray⟩ : Str).length = some k := by
    unfold seqIndex?
    have : (⟨x.toArray⟩ : Str).length = x.length := List.size_toArray ..
    rw [this]
    simp
    omega
  rw [e]
  simp [List.getElem?_eq_getElem hk]
theorem add_lists {prog : Program} {w : World} {A : Around} {E : Value → Shared → Prop} {s : Shared} {x y : List Nat} {t u : Tok} {Q : Value → Shared → Prop} (hsz : (x ++ y).length ≤ 100000) (h : ∀ t' tk, Q (.str ⟨(x ++ y).toArray⟩ t') { s with toks := tk }) :
    wpAny (model prog w) A (binaryOp .Add (.str ⟨x.toArray⟩ t) (.str ⟨y.toArray⟩ u)) Q E s := by
  refine P.add_str ?_
  have hl : ∀ l : List Nat, (⟨l.toArray⟩ : Str).length = l.length := fun l => List.size_toArray ..
  rw [hl, hl]
  split
  · rename_i e
    have : x = [] := List.length_eq_zero_iff.mp (beq_iff_eq.mp e)
    subst this
    exact h u s.toks
  · split
    · rename_i e
      have : y = [] := List.length_eq_zero_iff.mp (beq_iff_eq.mp e)
      subst this
      have := h t s.toks
      rw [List.append_nil] at this
      exact this
    · have e : (⟨x.toArray⟩ : Str) ++ ⟨y.toArray⟩ = ⟨(x ++ y).toArray⟩ := by
        show Str.mk (x.toArray ++ y.toArray) = _
        simp
      refine ⟨?_, ?_⟩
      · rw [e, hl]
        simp only [sizeLine]
        omega
      · rw [e]
        exact h _ _
theorem ne_same {prog : Program} {w : World} {A : Around} {E : Value → Shared → Prop} {s : Shared} {x y : List Nat} {t u : Tok} {Q : Value → Shared → Prop} (e : x = y) (h : Q (.bool false) s) : wpAny (model prog w) A (compareOp .NotEq (.str ⟨x.toArray⟩ t) (.str ⟨y.toArray⟩ u)) Q E s := by
  subst e
  refine P.ne_str ?_
  simpa using h
theorem fresh_news {g h h' : Heap} {L a : Addr} {o : Obj} {m : Str → Option Value} (F : Fr g L h m) (e : h'.get? a = some o) (hf : h.get? a = none) : h'.get? (a, o).1 = some (a, o).2 ∧ (a, o).1 ≠ L ∧ g.get? (a, o).1 = none := by
  refine ⟨e, ?_, ?_⟩
  · rintro rfl
    obtain ⟨o, _, _, ho, _⟩ := F.ns
    rw [ho] at hf
    cases hf
  · cases hg : g.get? a with
    | none => rfl
    | some o' => rw [F.keep _ _ hg] at hf; cases hf
theorem named {g h : Heap} {L : Addr} {m : Str → Option Value} {P : Prop} (_ : Fr g L h m) (k : ∀ m₁, m₁ = m → P) : P := k m rfl
theorem swap2 {g h : Heap} {L : Addr} {a b : Addr × Obj} {r : List (Addr × Obj)} (N : News g L h (a :: b :: r)) : News g L h (b :: a :: r) := fun p hp => N p (by
  rcases List.mem_cons.mp hp with rfl | hp
  · exact List.mem_cons_of_mem _ (List.mem_cons_self ..)
  · rcases List.mem_cons.mp hp with rfl | hp
    · exact List.mem_cons_self ..
    · exact List.mem_cons_of_mem _ (List.mem_cons_of_mem _ hp))
theorem newsTl {g h : Heap} {L : Addr} {a : Addr × Obj} {r : List (Addr × Obj)} (N : News g L h (a :: r)) : News g L h r := fun p hp => N p (List.mem_cons_of_mem _ hp)
theorem newsHd {g h : Heap} {L : Addr} {a : Addr × Obj} {r : List (Addr × Obj)} (N : News g L h (a :: r)) : h.get? a.1 = some a.2 ∧ a.1 ≠ L ∧ g.get? a.1 = none := N _ (List.mem_cons_self ..)
theorem newsCon {g h : Heap} {L : Addr} {a : Addr × Obj} {r : List (Addr × Obj)} (x : h.get? a.1 = some a.2 ∧ a.1 ≠ L ∧ g.get? a.1 = none) (N : News g L h r) : News g L h (a :: r) := fun p hp => by
  rcases List.mem_cons.mp hp with rfl | hp
  · exact x
  · exact N p hp
theorem swap3 {g h : Heap} {L : Addr} {a b c : Addr × Obj} {r : List (Addr × Obj)} (N : News g L h (a :: b :: c :: r)) : News g L h (a :: c :: b :: r) := newsCon (newsHd N) (swap2 (newsTl N))
theorem allLt_mem {d : Nat} : ∀ {l : List (Addr × Obj)}, AllLt d l → ∀ p ∈ l, p.1 < d
  | [], _, _, h => nomatch h
  | q :: l, x, p, h => by
    rcases List.mem_cons.mp h with rfl | h
    · exact x.1
    · exact allLt_mem x.2 p h
end Mine
end

section
namespace Mine
open PySem

/-- what a seam takes off: of the ends, of the dots, of both -/
def takeF (c d : Nat) : Nat := if c = 13 ∧ d = 10 then 2 else 0
def takeD (c d : Nat) : Nat := if d = 46 ∧ c ≠ 10 then 1 else 0
def takeQ (c d : Nat) : Nat := if c = 13 ∧ d = 10 then 2 else if d = 46 ∧ c ≠ 10 ∧ c ≠ 13 then 1 else 0

theorem seamF (c d : Nat) (r : List Nat) : ∀ (l : List Nat) (b : Bool), fixS b (l ++ c :: d :: r) = fixS b (l ++ [c]) ++ (fixS false (d :: r)).drop (takeF c d)
  | [], b => by
    simp only [List.nil_append, fixS, takeF]
    by_cases h10 : c = 10
    · subst h10; cases b <;> simp
    · by_cases h13 : c = 13
      · subst h13
        by_cases hd : d = 10
        · subst hd; simp
        · simp [hd]
      · simp [h10, h13]
  | y :: l, b => by
    simp only [List.cons_append, fixS, seamF c d r l]
    split
    · split <;> simp
    · split <;> simp
theorem seamD (c d : Nat) (r : List Nat) : ∀ (l : List Nat) (b : Bool), dotS b (l ++ c :: d :: r) = dotS b (l ++ [c]) ++ (dotS true (d :: r)).drop (takeD c d)
  | [], b => by
    simp only [List.nil_append, dotS, takeD]
    by_cases hd : d = 46
    · subst hd
      by_cases h10 : c = 10
      · subst h10; simp
      · by_cases h46 : c = 46
        · subst h46; cases b <;> simp
        · simp [h10, h46]
    · by_cases h46 : c = 46
      · subst h46; cases b <;> simp [hd]
      · simp [hd, h46]
  | y :: l, b => by
    simp only [List.cons_append, dotS, seamD c d r l]
    split <;> simp
def endS : Bool → List Nat → Bool
  | b, [] => b
  | _, c :: r => endS (c == 10) r
theorem dotS_app (r : List Nat) : ∀ (l : List Nat) (b : Bool), dotS b (l ++ r) = dotS b l ++ dotS (endS b l) r
  | [], b => by simp [dotS, endS]
  | y :: l, b => by
    simp only [List.cons_append, dotS, endS]
    split
    · rename_i h
      simp only [Bool.and_eq_true, beq_iff_eq] at h
      rw [h.2, dotS_app r l]; simp
    · rw [dotS_app r l]; simp
theorem end_fix (c : Nat) : ∀ (l : List Nat) (b f : Bool), (b = true → f = true) → endS f (fixS b (l ++ [c])) = (c == 10 || c == 13)
  | [], b, f, h => by
    simp only [List.nil_append, fixS]
    by_cases h10 : c = 10
    · subst h10
      cases b with
      | true => simp [endS, h rfl]
      | false => simp [endS]
    · by_cases h13 : c = 13
      · subst h13; simp [endS]
      · simp [h10, h13, endS]
  | y :: l, b, f, h => by
    simp only [List.cons_append, fixS]
    split
    · split
      · exact end_fix c l _ _ (by simp)
      · simp only [endS]; exact end_fix c l _ _ (by simp)
    · split
      · simp only [endS]; exact end_fix c l _ _ (by simp)
      · simp only [endS]; exact end_fix c l _ _ (by simp)
theorem dot_part (c d : Nat) (r : List Nat) : dotS (c == 10 || c == 13) ((fixS false (d :: r)).drop (takeF c d)) = (dotS true (fixS false (d :: r))).drop (takeQ c d) := by
  unfold takeF takeQ
  by_cases h : c = 13 ∧ d = 10
  · rw [if_pos h, if_pos h, h.1, h.2]
    simp [fixS, dotS]
  · rw [if_neg h, if_neg h]
    by_cases h10 : c = 10
    · subst h10; simp
    · by_cases h13 : c = 13
      · subst h13; simp
      · simp only [h10, h13, ne_eq, not_false_eq_true, and_true, List.drop_zero]
        have e : (c == 10 || c == 13) = false := by simp [h10, h13]
        rw [e]
        by_cases hd : d = 46
        · subst hd; simp [fixS, dotS]
        · rw [if_neg hd, List.drop_zero]
          simp only [fixS]
          split
          · simp [dotS]
          · split
            · simp [dotS]
            · simp [dotS, hd]
theorem seamQ (c d : Nat) (r l : List Nat) : dotL (fixL (l ++ c :: d :: r)) = dotL (fixL (l ++ [c])) ++ (dotL (fixL (d :: r))).drop (takeQ c d) := by
  unfold dotL fixL
  rw [seamF, dotS_app, end_fix c l false true (by simp), dot_part]

/-- a piece of a text -/
def pc (x : List Nat) (i k : Nat) : List Nat := (x.take k).drop i
theorem pc_length (x : List Nat) {i k : Nat} (hk : k ≤ x.length) : (pc x i k).length = k - i := by simp [pc]; omega
theorem pc_cons (x : List Nat) {i k : Nat} (h : i < k) (hk : k ≤ x.length) : pc x i k = x.getD i 0 :: pc x (i + 1) k := by
  unfold pc
  rw [List.drop_eq_getElem_cons (by simp; omega)]
  simp [List.getD, List.getElem?_eq_getElem (show i < x.length by omega)]
theorem pc_self (x : List Nat) (i : Nat) : pc x i i = [] := by simp [pc]
theorem pc_one (x : List Nat) {i : Nat} (h : i < x.length) : pc x i (i + 1) = [x.getD i 0] := by rw [pc_cons x (Nat.lt_succ_self i) h, pc_self]
theorem pc_app (x : List Nat) : ∀ {i j k : Nat}, i ≤ j → j ≤ k → k ≤ x.length → pc x i k = pc x i j ++ pc x j k := by
  intro i j k hij hjk hk
  obtain ⟨n, rfl⟩ : ∃ n, j = i + n := ⟨j - i, by omega⟩
  induction n generalizing i with
  | zero => rw [show i + 0 = i from rfl, pc_self]; rfl
  | succ n ih =>
    have e : i + (n + 1) = i + 1 + n := by omega
    rw [e]
    rw [pc_cons x (i := i) (by omega) hk, pc_cons x (i := i) (k := i + 1 + n) (by omega) (by omega), ih (by omega) (by omega), List.cons_append]
theorem pc_mem {x : List Nat} {i k c : Nat} (h : c ∈ pc x i k) : c ∈ x := List.mem_of_mem_take (List.mem_of_mem_drop h)

theorem pc_seam (x : List Nat) {i j k : Nat} (hij : i < j) (hjk : j < k) (hk : k ≤ x.length) :
    fixL (pc x i k) = fixL (pc x i j) ++ (fixL (pc x j k)).drop (takeF (x.getD (j - 1) 0) (x.getD j 0)) ∧
    dotL (pc x i k) = dotL (pc x i j) ++ (dotL (pc x j k)).drop (takeD (x.getD (j - 1) 0) (x.getD j 0)) ∧
    dotL (fixL (pc x i k)) = dotL (fixL (pc x i j)) ++ (dotL (fixL (pc x j k))).drop (takeQ (x.getD (j - 1) 0) (x.getD j 0)) := by
  have e1 : pc x i j = pc x i (j - 1) ++ [x.getD (j - 1) 0] := by
    have := pc_one x (i := j - 1) (by omega)
    rw [show j - 1 + 1 = j by omega] at this
    rw [← this]
    exact pc_app x (by omega) (by omega) (by omega)
  have e2 : pc x j k = x.getD j 0 :: pc x (j + 1) k := pc_cons x hjk hk
  have e3 : pc x i k = pc x i (j - 1) ++ x.getD (j - 1) 0 :: x.getD j 0 :: pc x (j + 1) k := by
    rw [pc_app x (Nat.le_of_lt hij) (Nat.le_of_lt hjk) hk, e1, e2, List.append_assoc]; rfl
  rw [e1, e2, e3]
  exact ⟨seamF _ _ _ _ _, seamD _ _ _ _ _, seamQ _ _ _ _⟩
end Mine
end

section
namespace Mine
open PySem

/-- a letter as drawn: rows with the way their end is spelled, letters within -/
inductive Draw where
  | nil
  | tup (b : List Nat) (e : Nat) (r : Draw)
  | sub (l : Draw) (r : Draw)
/-- a letter as told -/
inductive Told where
  | nil
  | txt (b : List Nat) (r : Told)
  | sub (l : Told) (r : Told)

def Told.isNil : Told → Bool
  | .nil => true
  | _ => false
def Draw.isNil : Draw → Bool
  | .nil => true
  | _ => false
def orEmpty : Told → Told
  | .nil => .txt [] .nil
  | t => t
def tl : Draw → Told
  | .nil => .nil
  | .tup b _ r => .txt b (tl r)
  | .sub l r => .sub (orEmpty (tl l)) (tl r)
def told (d : Draw) : Told := orEmpty (tl d)

def quote : List Nat → List Nat
  | 46 :: r => 46 :: 46 :: r
  | r => r
def closed (rs : List (List Nat)) : List (List Nat) := rs.map quote ++ [[46]]
def bare : Told → List (List Nat)
  | .nil => []
  | .txt b r => b :: bare r
  | .sub l r => [62] :: (closed (bare l) ++ bare r)
def enc : List (List Nat) → List Nat
  | [] => []
  | r :: rs => r ++ 13 :: 10 :: enc rs
def wire (t : Told) : List Nat := enc (closed (bare t))

def flag : Bool → List Nat → Bool
  | b, [] => b
  | _, c :: r => flag (c == 13) r
def endOf (tb b : List Nat) (e : Nat) (last : Bool) : List Nat :=
  let e0 := if e = 0 then [13, 10] else if e = 1 then [10] else if e = 2 then [13] else []
  let e1 := if e0 = [] ∧ (b = [] ∨ last = false) then [13, 10] else e0
  if e1 = [10] ∧ flag false tb = true then [13, 10] else e1
def nlOf (n : Nat) : List Nat := if n % 3 = 0 then [13] else if n % 3 = 1 then [10] else [13, 10]
def finish (text : List Nat) : List Nat :=
  let s := dotL (fixL text)
  (if s.drop (s.length - 2) = [13, 10] then s else s ++ [13, 10]) ++ [46, 13, 10]
def textD : Draw → List Nat → List Nat
  | .nil, t => t
  | .tup b e r, t => textD r (t ++ b ++ endOf (t ++ b) b e r.isNil)
  | .sub l r, t => textD r (t ++ 62 :: nlOf t.length ++ finish (textD l []))
def textT : Told → List Nat → List Nat
  | .nil, t => t
  | .txt b r, t => textT r (t ++ b ++ [10])
  | .sub l r, t => textT r (t ++ 62 :: nlOf t.length ++ finish (textT l []))
def wireD (d : Draw) : List Nat := finish (textD d [])
def wireT (d : Told) : List Nat := finish (textT d [])

def Clean (b : List Nat) : Prop := ∀ c ∈ b, c ≠ 10 ∧ c ≠ 13
def Draw.Ok : Draw → Prop
  | .nil => True
  | .tup b _ r => Clean b ∧ b ≠ [62] ∧ r.Ok
  | .sub l r => l.Ok ∧ r.Ok
/-- no letter told is empty, no row told is the opening sign -/
def Told.Ok : Told → Prop
  | .nil => True
  | .txt b r => Clean b ∧ b ≠ [62] ∧ r.Ok
  | .sub l r => l.isNil = false ∧ l.Ok ∧ r.Ok

theorem fixS_app (u : List Nat) : ∀ (t : List Nat) (b : Bool), fixS b (t ++ u) = fixS b t ++ fixS (flag b t) u
  | [], b => by simp [fixS, flag]
  | c :: t, b => by
    simp only [List.cons_append, fixS, flag]
    split
    · rename_i h
      rw [beq_iff_eq] at h
      subst h
      split <;> simp [fixS_app u t]
    · split
      · rename_i h
        rw [beq_iff_eq] at h
        subst h
        simp [fixS_app u t]
      · rename_i h1 h2
        have : (c == 13) = false := by simpa using h2
        rw [this]
        simp [fixS_app u t]
theorem flag_app (u : List Nat) : ∀ (t : List Nat) (b : Bool), flag b (t ++ u) = flag (flag b t) u
  | [], b => rfl
  | c :: t, b => flag_app u t _
theorem flag_last : ∀ (l : List Nat), flag false l = (l.getLast? == some 13) := by
  intro l
  rcases List.eq_nil_or_concat l with rfl | ⟨l', c, rfl⟩
  · rfl
  · rw [List.concat_eq_append, flag_app]
    simp [flag]
theorem fix_clean : ∀ {b : List Nat} (f : Bool), Clean b → (b ≠ [] ∨ f = false) → fixS f b = b ∧ (b ≠ [] → flag f b = false)
  | [], f, _, _ => ⟨rfl, fun h => absurd rfl h⟩
  | c :: r, f, hb, _ => by
    have h1 := hb c (List.mem_cons_self ..)
    have ih := fix_clean (b := r) false (fun d hd => hb d (List.mem_cons_of_mem _ hd)) (.inr rfl)
    have e10 : (c == 10) = false := by simpa using h1.1
    have e13 : (c == 13) = false := by simpa using h1.2
    refine ⟨?_, fun _ => ?_⟩
    · simp [fixS, e10, e13, ih.1]
    · simp only [flag, e13]
      cases r with
      | nil => rfl
      | cons d r => exact ih.2 (by simp)
theorem fix_row {t b : List Nat} {e : Nat} {last : Bool} (hb : Clean b) (hne : endOf (t ++ b) b e last ≠ []) : fixS (flag false t) (b ++ endOf (t ++ b) b e last) = b ++ [13, 10] := by
  have three : endOf (t ++ b) b e last = [13, 10] ∨ (endOf (t ++ b) b e last = [10] ∧ flag false (t ++ b) = false) ∨ endOf (t ++ b) b e last = [13] := by
    unfold endOf at hne ⊢
    generalize flag false (t ++ b) = f at hne ⊢
    by_cases h0 : e = 0
    · left; simp [h0]
    · by_cases h1 : e = 1
      · cases f
        · right; left; simp [h1]
        · left; simp [h1]
      · by_cases h2 : e = 2
        · right; right; simp [h2]
        · by_cases h3 : b = [] ∨ last = false
          · left; simp [h0, h1, h2, h3]
          · exfalso; apply hne; simp [h0, h1, h2, h3]
  cases b with
  | nil =>
    simp only [List.append_nil, List.nil_append] at three ⊢
    rcases three with h | ⟨h, h2⟩ | h
    · rw [h]; simp [fixS]
    · rw [h, h2]; simp [fixS]
    · rw [h]; simp [fixS]
  | cons c r =>
    rw [fixS_app, (fix_clean _ hb (.inl (by simp))).1, (fix_clean (flag false t) hb (.inl (by simp))).2 (by simp)]
    rcases three with h | ⟨h, h2⟩ | h
    · rw [h]; simp [fixS]
    · rw [h]; simp [fixS]
    · rw [h]; simp [fixS]
theorem fix_enc : ∀ {rs : List (List Nat)} (f : Bool), (∀ r ∈ rs, Clean r) → fixS f (enc rs) = enc rs
  | [], _, _ => rfl
  | r :: rs, f, h => by
    have hr := h r (List.mem_cons_self ..)
    have ih := fix_enc (rs := rs) false fun q hq => h q (List.mem_cons_of_mem _ hq)
    show fixS f (r ++ 13 :: 10 :: enc rs) = _
    rw [fixS_app]
    have e : fixS (flag f r) (13 :: 10 :: enc rs) = 13 :: 10 :: enc rs := by simp [fixS, ih]
    rw [e]
    cases r with
    | nil => rfl
    | cons c r => rw [(fix_clean f hr (.inl (by simp))).1]; rfl
theorem fix_sub {rs : List (List Nat)} (f : Bool) (n : Nat) (h : ∀ r ∈ rs, Clean r) : fixS f (62 :: nlOf n ++ enc rs) = 62 :: 13 :: 10 :: enc rs := by
  have e := fix_enc (rs := rs)
  unfold nlOf
  split
  · simp [fixS, e _ h]
  · split
    · simp [fixS, e _ h]
    · simp [fixS, e _ h]
theorem enc_app (b : List (List Nat)) : ∀ a : List (List Nat), enc (a ++ b) = enc a ++ enc b
  | [] => rfl
  | r :: a => by simp [enc, enc_app b a]

theorem dot_clean : ∀ {b : List Nat}, Clean b → dotS false b = b ∧ endS false b = false
  | [], _ => ⟨rfl, rfl⟩
  | c :: r, h => by
    have ih := dot_clean (b := r) fun d hd => h d (List.mem_cons_of_mem _ hd)
    have e10 : (c == 10) = false := by simpa using (h c (List.mem_cons_self ..)).1
    simp [dotS, endS, e10, ih.1, ih.2]
theorem dot_row {b : List Nat} (h : Clean b) : dotS true b = quote b ∧ (b ≠ [] → endS true b = false) := by
  cases b with
  | nil => exact ⟨rfl, fun h => absurd rfl h⟩
  | cons c r =>
    have ih := dot_clean (b := r) fun d hd => h d (List.mem_cons_of_mem _ hd)
    have e10 : (c == 10) = false := by simpa using (h c (List.mem_cons_self ..)).1
    constructor
    · by_cases h46 : c = 46
      · subst h46; simp [dotS, quote, ih.1]
      · simp only [dotS, Bool.true_and]
        rw [if_neg (by simpa using h46), e10, ih.1]
        unfold quote
        split
        · rename_i h; injection h with h _; exact absurd h h46
        · rfl
    · intro _; simp [endS, e10, ih.2]
theorem dot_enc (tail : List Nat) : ∀ {rs : List (List Nat)}, (∀ r ∈ rs, Clean r) → dotS true (enc rs ++ tail) = enc (rs.map quote) ++ dotS true tail
  | [], _ => rfl
  | r :: rs, h => by
    have hr := h r (List.mem_cons_self ..)
    have ih := dot_enc tail (rs := rs) fun q hq => h q (List.mem_cons_of_mem _ hq)
    show dotS true ((r ++ 13 :: 10 :: enc rs) ++ tail) = _
    rw [List.append_assoc, dotS_app, (dot_row hr).1]
    have e : ∀ f, dotS f (13 :: 10 :: enc rs ++ tail) = 13 :: 10 :: dotS true (enc rs ++ tail) := by
      intro f
      simp [dotS]
    rw [e, ih]
    simp [enc]
theorem clean_quote {b : List Nat} (h : Clean b) : Clean (quote b) := by
  unfold quote
  split
  · intro c hc
    rcases List.mem_cons.mp hc with rfl | hc
    · decide
    · exact h c hc
  · exact h
theorem drop_two (a : List Nat) : (a ++ [13, 10]).drop ((a ++ [13, 10]).length - 2) = [13, 10] := by simp
theorem enc_snoc (rs : List (List Nat)) (r : List Nat) : enc (rs ++ [r]) = (enc rs ++ r) ++ [13, 10] := by rw [enc_app]; simp [enc]

theorem finish_eq {text : List Nat} {rs : List (List Nat)} (hc : ∀ r ∈ rs, Clean r) (h : (rs ≠ [] ∧ fixL text = enc rs) ∨ (rs = [[]] ∧ text = []) ∨ ∃ rs' b, rs = rs' ++ [b] ∧ b ≠ [] ∧ fixL text = enc rs' ++ b) : finish text = enc (closed rs) := by
  have key : (if (dotL (fixL text)).drop ((dotL (fixL text)).length - 2) = [13, 10] then dotL (fixL text) else dotL (fixL text) ++ [13, 10]) = enc (rs.map quote) := by
    rcases h with ⟨hne, h⟩ | ⟨rfl, rfl⟩ | ⟨rs', b, rfl, hb, h⟩
    · have e : dotL (fixL text) = enc (rs.map quote) := by
        have := dot_enc [] hc
        rw [List.append_nil] at this
        unfold dotL
        rw [h, this]
        simp [dotS]
      rw [e]
      obtain ⟨rs', r, hr⟩ : ∃ rs' r, rs.map quote = rs' ++ [r] := by
        rcases List.eq_nil_or_concat (rs.map quote) with h | ⟨a, b, h⟩
        · simp at h; exact absurd h hne
        · exact ⟨a, b, by rw [h, List.concat_eq_append]⟩
      rw [hr, enc_snoc, if_pos (drop_two _)]
    · simp [fixL, fixS, dotL, dotS, quote, enc]
    · have hb' : Clean b := hc b (by simp)
      have e : dotL (fixL text) = enc (rs'.map quote) ++ quote b := by
        unfold dotL
        rw [h, dot_enc b fun r hr => hc r (by simp [hr]), (dot_row hb').1]
      rw [e, List.map_append, List.map_singleton, enc_snoc]
      rw [if_neg]
      intro hd
      have hq : quote b ≠ [] := by
        intro hq
        unfold quote at hq
        split at hq
        · cases hq
        · exact hb hq
      obtain ⟨q', c, hqc⟩ : ∃ q' c, quote b = q' ++ [c] := by
        rcases List.eq_nil_or_concat (quote b) with h | ⟨a, d, h⟩
        · exact absurd h hq
        · exact ⟨a, d, by rw [h, List.concat_eq_append]⟩
      have hc10 : c ≠ 10 := (clean_quote hb' c (by rw [hqc]; simp)).1
      have hlast : (enc (rs'.map quote) ++ quote b).getLast? = some 10 := by
        have h1 := List.take_append_drop ((enc (rs'.map quote) ++ quote b).length - 2) (enc (rs'.map quote) ++ quote b)
        rw [hd] at h1
        rw [← h1]
        simp
      rw [hqc, ← List.append_assoc, List.getLast?_append] at hlast
      simp at hlast
      exact hc10 hlast
  unfold finish
  simp only
  rw [key]
  unfold closed
  rw [enc_app]
  simp [enc]

theorem clean_bare : ∀ {t : Told}, t.Ok → ∀ r ∈ bare t, Clean r
  | .nil, _, r, h => nomatch h
  | .txt b t, ok, r, h => by
    rcases List.mem_cons.mp h with rfl | h
    · exact ok.1
    · exact clean_bare ok.2.2 r h
  | .sub l t, ok, r, h => by
    rcases List.mem_cons.mp h with rfl | h
    · intro c hc; rw [List.mem_singleton.mp hc]; decide
    · rcases List.mem_append.mp h with h | h
      · rcases List.mem_append.mp h with h | h
        · obtain ⟨q, hq, rfl⟩ := List.mem_map.mp h
          exact clean_quote (clean_bare ok.2.1 q hq)
        · rw [List.mem_singleton.mp h]; intro c hc; rw [List.mem_singleton.mp hc]; decide
      · exact clean_bare ok.2.2 r h
theorem orEmpty_ok {t : Told} (h : t.Ok) : (orEmpty t).Ok ∧ (orEmpty t).isNil = false := by
  cases t with
  | nil => exact ⟨⟨(fun _ h => nomatch h), by decide, trivial⟩, rfl⟩
  | txt b r => exact ⟨h, rfl⟩
  | sub l r => exact ⟨h, rfl⟩
theorem tl_ok : ∀ {d : Draw}, d.Ok → (tl d).Ok
  | .nil, _ => trivial
  | .tup b e r, h => ⟨h.1, h.2.1, tl_ok h.2.2⟩
  | .sub l r, h => ⟨(orEmpty_ok (tl_ok h.1)).2, (orEmpty_ok (tl_ok h.1)).1, tl_ok h.2⟩
theorem bare_ne {t : Told} (h : t.isNil = false) : bare t ≠ [] := by
  cases t with
  | nil => cases h
  | txt b r => simp [bare]
  | sub l r => simp [bare]
theorem clean_closed {t : Told} (h : t.Ok) : ∀ r ∈ closed (bare t), Clean r := by
  intro r hr
  rcases List.mem_append.mp hr with h' | h'
  · obtain ⟨q, hq, rfl⟩ := List.mem_map.mp h'
    exact clean_quote (clean_bare h q hq)
  · rw [List.mem_singleton.mp h']; intro c hc; rw [List.mem_singleton.mp hc]; decide

def Spelled (d : Told) (t u : List Nat) (x : List Nat) : Prop := fixL x = fixL t ++ u ∧ (u = enc (bare d) ∨ ∃ rs b, bare d = rs ++ [b] ∧ b ≠ [] ∧ u = enc rs ++ b)
theorem finish_spelled {d : Told} {x u : List Nat} (ok : d.Ok) (h : Spelled d [] u x) (hn : d = .nil → x = []) : finish x = wire (orEmpty d) := by
  obtain ⟨h1, h2⟩ := h
  have h1' : fixL x = u := h1
  refine finish_eq (clean_bare (orEmpty_ok ok).1) ?_
  by_cases hd : d = .nil
  · subst hd
    exact .inr (.inl ⟨rfl, hn rfl⟩)
  · have e : orEmpty d = d := by cases d with
      | nil => exact absurd rfl hd
      | txt b r => rfl
      | sub l r => rfl
    rw [e]
    rcases h2 with rfl | ⟨rs, b, e1, e2, rfl⟩
    · refine .inl ⟨?_, h1'⟩
      cases d with
      | nil => exact absurd rfl hd
      | txt b r => simp [bare]
      | sub l r => simp [bare]
    · exact .inr (.inr ⟨rs, b, e1, e2, h1'⟩)
theorem spelled_step {d d' : Told} {t t' u x row : List Nat} {rows : List (List Nat)} (h0 : fixL t' = fixL t ++ enc rows) (hb : bare d = rows ++ bare d') (h : Spelled d' t' u x) : Spelled d t (enc rows ++ u) x := by
  refine ⟨by rw [h.1, h0, List.append_assoc], ?_⟩
  rcases h.2 with rfl | ⟨rs, b, e1, e2, rfl⟩
  · left; rw [hb, enc_app]
  · right
    exact ⟨rows ++ rs, b, by rw [hb, e1, List.append_assoc], e2, by rw [enc_app, List.append_assoc]⟩

theorem textD_spec : ∀ (d : Draw) (t : List Nat), d.Ok → ∃ u, Spelled (tl d) t u (textD d t)
  | .nil, t, _ => ⟨[], by simp [Spelled, textD, tl, bare, enc]⟩
  | .tup b e r, t, ok => by
    by_cases hne : endOf (t ++ b) b e r.isNil = []
    · -- the last row, without an end
      have hr : r.isNil = true ∧ b ≠ [] := by
        unfold endOf at hne
        generalize flag false (t ++ b) = f at hne
        cases hr : r.isNil with
        | true =>
          refine ⟨rfl, fun hb => ?_⟩
          subst hb
          revert hne
          by_cases h0 : e = 0
          · simp [h0]
          · by_cases h1 : e = 1
            · cases f <;> simp [h1]
            · by_cases h2 : e = 2 <;> simp [h0, h1, h2]
        | false =>
          exfalso
          revert hne
          rw [hr]
          by_cases h0 : e = 0
          · simp [h0]
          · by_cases h1 : e = 1
            · cases f <;> simp [h1]
            · by_cases h2 : e = 2 <;> simp [h0, h1, h2]
      cases r with
      | tup _ _ _ => cases hr.1
      | sub _ _ => cases hr.1
      | nil =>
        refine ⟨b, ?_, .inr ⟨[], b, rfl, hr.2, rfl⟩⟩
        show fixL (textD .nil (t ++ b ++ endOf (t ++ b) b e true)) = _
        have hne' : endOf (t ++ b) b e true = [] := hne
        rw [hne', List.append_nil]
        show fixS false (t ++ b) = _
        rw [fixS_app, (fix_clean _ ok.1 (.inl hr.2)).1]
        rfl
    · obtain ⟨u, hu⟩ := textD_spec r (t ++ b ++ endOf (t ++ b) b e r.isNil) ok.2.2
      refine ⟨_, spelled_step (rows := [b]) (row := []) ?_ rfl hu⟩
      show fixS false _ = _
      rw [List.append_assoc, fixS_app, fix_row ok.1 hne]
      simp [fixL, enc]
  | .sub l r, t, ok => by
    obtain ⟨u₀, h₀⟩ := textD_spec l [] ok.1
    have hf := finish_spelled (tl_ok ok.1) h₀ (fun h => by
      cases l with
      | nil => rfl
      | tup _ _ _ => cases h
      | sub _ _ => cases h)
    obtain ⟨u, hu⟩ := textD_spec r (t ++ 62 :: nlOf t.length ++ finish (textD l [])) ok.2
    refine ⟨_, spelled_step (rows := [62] :: closed (bare (orEmpty (tl l)))) (row := []) ?_ rfl hu⟩
    rw [hf]
    unfold wire
    show fixS false _ = _
    rw [List.append_assoc, fixS_app, fix_sub _ _ (clean_closed (orEmpty_ok (tl_ok ok.1)).1)]
    simp [fixL, enc]
theorem wireD_eq {d : Draw} (ok : d.Ok) : wireD d = wire (told d) := by
  obtain ⟨u, h⟩ := textD_spec d [] ok
  exact finish_spelled (tl_ok ok) h (fun h => by
    cases d with
    | nil => rfl
    | tup _ _ _ => cases h
    | sub _ _ => cases h)
theorem textT_spec : ∀ (d : Told) (t : List Nat), d.Ok → flag false t = false → fixL (textT d t) = fixL t ++ enc (bare d)
  | .nil, t, _, _ => by simp [textT, bare, enc]
  | .txt b r, t, ok, hf => by
    have h1 := textT_spec r (t ++ b ++ [10]) ok.2.2 (by rw [flag_app]; rfl)
    show fixL (textT r _) = _
    rw [h1]
    have : fixL (t ++ b ++ [10]) = fixL t ++ (b ++ [13, 10]) := by
      show fixS false _ = _
      rw [List.append_assoc, fixS_app, hf, fixS_app, (fix_clean _ ok.1 (.inr rfl)).1]
      have : flag false b = false := by
        cases b with
        | nil => rfl
        | cons c r => exact (fix_clean false ok.1 (.inr rfl)).2 (by simp)
      rw [this]
      simp [fixL, fixS]
    rw [this]
    simp [bare, enc]
  | .sub l r, t, ok, hf => by
    have hl := textT_spec l [] ok.2.1 rfl
    have hfin : finish (textT l []) = wire l := by
      refine finish_eq (clean_bare ok.2.1) (.inl ⟨bare_ne ok.1, ?_⟩)
      rw [hl]; rfl
    have hw : flag false (t ++ 62 :: nlOf t.length ++ finish (textT l [])) = false := by
      rw [hfin]
      unfold wire closed
      rw [enc_app, show enc [[46]] = [46, 13] ++ [10] from rfl, ← List.append_assoc, ← List.append_assoc, flag_app]
      rfl
    have h1 := textT_spec r (t ++ 62 :: nlOf t.length ++ finish (textT l [])) ok.2.2 hw
    show fixL (textT r _) = _
    rw [h1]
    have : fixL (t ++ 62 :: nlOf t.length ++ finish (textT l [])) = fixL t ++ (62 :: 13 :: 10 :: wire l) := by
      show fixS false _ = _
      rw [hfin]
      unfold wire
      rw [List.append_assoc, fixS_app, fix_sub _ _ (clean_closed ok.2.1)]
      rfl
    rw [this]
    simp [bare, enc, enc_app, wire]
theorem wireT_eq {d : Told} (ok : d.Ok) (hn : d.isNil = false) : wireT d = wire d := by
  have h := textT_spec d [] ok rfl
  exact finish_eq (clean_bare ok) (.inl ⟨bare_ne hn, by rw [h]; rfl⟩)
end Mine
end

section
namespace Mine
open PySem PySem.W PyProof.Rows PySem.Sre PySem.Builtin.Re PySem.Builtin.Bytes

/-- a letter as the writer meets it: drawn rows, told rows, letters within -/
inductive Gen where
  | nil
  | tup (b : List Nat) (e : Nat) (r : Gen)
  | txt (b : List Nat) (r : Gen)
  | sub (l : Gen) (r : Gen)
def Gen.isNil : Gen → Bool
  | .nil => true
  | _ => false
def ofD : Draw → Gen
  | .nil => .nil
  | .tup b e r => .tup b e (ofD r)
  | .sub l r => .sub (ofD l) (ofD r)
def ofT : Told → Gen
  | .nil => .nil
  | .txt b r => .txt b (ofT r)
  | .sub l r => .sub (ofT l) (ofT r)
def textG : Gen → List Nat → List Nat
  | .nil, t => t
  | .tup b e r, t => textG r (t ++ b ++ endOf (t ++ b) b e r.isNil)
  | .txt b r, t => textG r (t ++ b ++ [10])
  | .sub l r, t => textG r (t ++ 62 :: nlOf t.length ++ finish (textG l []))
def wireG (g : Gen) : List Nat := finish (textG g [])
theorem nil_D (d : Draw) : (ofD d).isNil = d.isNil := by cases d <;> rfl
theorem textG_D : ∀ (d : Draw) (t : List Nat), textG (ofD d) t = textD d t
  | .nil, _ => rfl
  | .tup b e r, t => by simp only [ofD, textG, textD, nil_D]; exact textG_D r _
  | .sub l r, t => by simp only [ofD, textG, textD, textG_D l]; exact textG_D r _
theorem textG_T : ∀ (d : Told) (t : List Nat), textG (ofT d) t = textT d t
  | .nil, _ => rfl
  | .txt b r, t => by simp only [ofT, textG, textT]; exact textG_T r _
  | .sub l r, t => by simp only [ofT, textG, textT, textG_T l]; exact textG_T r _
theorem wireG_D {d : Draw} (ok : d.Ok) : wireG (ofD d) = wire (told d) := by
  have := wireD_eq ok
  unfold wireG wireD at *
  rw [textG_D, this]
theorem wireG_T {d : Told} (ok : d.Ok) (hn : d.isNil = false) : wireG (ofT d) = wire d := by
  have := wireT_eq ok hn
  unfold wireG wireT at *
  rw [textG_T, this]
theorem textG_ge : ∀ (g : Gen) (t : List Nat), t.length ≤ (textG g t).length
  | .nil, _ => Nat.le_refl _
  | .tup b e r, t => Nat.le_trans (by simp) (textG_ge r _)
  | .txt b r, t => Nat.le_trans (by simp) (textG_ge r _)
  | .sub l r, t => Nat.le_trans (by simp) (textG_ge r _)

/-- how many nodes, how deep -/
def Gen.cnt : Gen → Nat
  | .nil => 0
  | .tup _ _ r => r.cnt + 1
  | .txt _ r => r.cnt + 1
  | .sub l r => l.cnt + r.cnt + 1
def Gen.dep : Gen → Nat
  | .nil => 0
  | .tup _ _ r => r.dep
  | .txt _ r => r.dep
  | .sub l r => max (l.dep + 1) r.dep
/-- every row is short and of octets -/
def Gen.Short : Gen → Prop
  | .nil => True
  | .tup b _ r => b.length ≤ 4 ∧ (∀ c ∈ b, c < 256) ∧ r.Short
  | .txt b r => b.length ≤ 4 ∧ (∀ c ∈ b, c < 256) ∧ r.Short
  | .sub l r => l.Short ∧ r.Short

theorem fix_len : ∀ (b : Bool) (l : List Nat), (fixS b l).length ≤ 2 * l.length
  | _, [] => Nat.zero_le _
  | b, c :: r => by
    unfold fixS
    have h1 := fix_len false r
    have h2 := fix_len true r
    split
    · split <;> simp <;> omega
    · split <;> simp <;> omega
theorem dot_len : ∀ (b : Bool) (l : List Nat), (dotS b l).length ≤ 2 * l.length
  | _, [] => Nat.zero_le _
  | b, c :: r => by
    unfold dotS
    have h1 := dot_len false r
    have h2 := dot_len (c == 10) r
    split <;> simp <;> omega
theorem dot_mem : ∀ {b : Bool} {l : List Nat} {c : Nat}, c ∈ dotS b l → c ∈ l ∨ c = 46
  | _, [], _, h => by cases h
  | b, d :: r, c, h => by
    unfold dotS at h
    split at h
    · rcases List.mem_cons.mp h with h | h
      · exact .inr h
      · rcases List.mem_cons.mp h with h | h
        · exact .inr h
        · exact (dot_mem h).imp (List.mem_cons_of_mem _) id
    · rcases List.mem_cons.mp h with h | h
      · exact .inl (h ▸ List.mem_cons_self ..)
      · exact (dot_mem h).imp (List.mem_cons_of_mem _) id
theorem fix_mem : ∀ {b : Bool} {l : List Nat} {c : Nat}, c ∈ fixS b l → c ∈ l ∨ c = 13 ∨ c = 10
  | _, [], _, h => nomatch h
  | b, y :: l, c, h => by
    simp only [fixS] at h
    have ih := fun b => @fix_mem b l c
    split at h
    · split at h
      · rcases ih _ h with h | h
        · exact .inl (List.mem_cons_of_mem _ h)
        · exact .inr h
      · rcases List.mem_cons.mp h with h | h
        · exact .inr (.inl h)
        · rcases List.mem_cons.mp h with h | h
          · exact .inr (.inr h)
          · rcases ih _ h with h | h
            · exact .inl (List.mem_cons_of_mem _ h)
            · exact .inr h
    · split at h
      · rcases List.mem_cons.mp h with h | h
        · exact .inr (.inl h)
        · rcases List.mem_cons.mp h with h | h
          · exact .inr (.inr h)
          · rcases ih _ h with h | h
            · exact .inl (List.mem_cons_of_mem _ h)
            · exact .inr h
      · rcases List.mem_cons.mp h with h | h
        · exact .inl (h ▸ List.mem_cons_self ..)
        · rcases ih _ h with h | h
          · exact .inl (List.mem_cons_of_mem _ h)
          · exact .inr h

def Gen.room : Gen → Nat
  | .nil => 0
  | .tup _ _ r => 6 + r.room
  | .txt _ r => 6 + r.room
  | .sub l r => 8 + 4 * l.room + r.room
theorem endOf_le (tb b : List Nat) (e : Nat) (last : Bool) : (endOf tb b e last).length ≤ 2 ∧ ∀ c ∈ endOf tb b e last, c = 13 ∨ c = 10 := by
  unfold endOf
  generalize flag false tb = f
  by_cases h0 : e = 0
  · simp [h0]
  · by_cases h1 : e = 1
    · cases f <;> simp [h1]
    · by_cases h2 : e = 2
      · simp [h2]
      · by_cases h3 : b = [] ∨ last = false <;> simp [h0, h1, h2, h3]
theorem nlOf_le (n : Nat) : (nlOf n).length ≤ 2 ∧ ∀ c ∈ nlOf n, c = 13 ∨ c = 10 := by
  unfold nlOf
  by_cases h0 : n % 3 = 0
  · simp [h0]
  · by_cases h1 : n % 3 = 1 <;> simp [h0, h1]
theorem finish_le (x : List Nat) : (finish x).length ≤ 4 * x.length + 5 := by
  have h1 := fix_len false x
  have h2 := dot_len true (fixS false x)
  have h3 : (dotL (fixL x)).length ≤ 4 * x.length := by unfold dotL fixL; omega
  unfold finish
  simp only
  split <;> simp <;> omega
theorem finish_mem {x : List Nat} (h : ∀ c ∈ x, c < 256) : ∀ c ∈ finish x, c < 256 := by
  have hd : ∀ c ∈ dotL (fixL x), c < 256 := by
    intro c hc
    rcases dot_mem hc with hc | rfl
    · rcases fix_mem hc with hc | rfl | rfl
      · exact h c hc
      · omega
      · omega
    · omega
  intro c hc
  unfold finish at hc
  simp only at hc
  split at hc
  · rcases List.mem_append.mp hc with hc | hc
    · exact hd c hc
    · simp at hc; omega
  · simp only [List.append_assoc] at hc
    rcases List.mem_append.mp hc with hc | hc
    · exact hd c hc
    · simp at hc; omega
theorem textG_le : ∀ (g : Gen) (t : List Nat), g.Short → (textG g t).length ≤ t.length + g.room
  | .nil, _, _ => Nat.le_refl _
  | .tup b e r, t, h => by
    refine Nat.le_trans (textG_le r _ h.2.2) ?_
    have := (endOf_le (t ++ b) b e r.isNil).1
    have := h.1
    simp only [List.length_append, Gen.room]; omega
  | .txt b r, t, h => by
    refine Nat.le_trans (textG_le r _ h.2.2) ?_
    have := h.1
    simp only [List.length_append, Gen.room, List.length_singleton]; omega
  | .sub l r, t, h => by
    refine Nat.le_trans (textG_le r _ h.2) ?_
    have h1 := textG_le l [] h.1
    have h2 := finish_le (textG l [])
    have h3 := (nlOf_le t.length).1
    simp only [List.length_append, Gen.room, List.length_cons, List.length_nil] at h1 ⊢; omega
theorem textG_mem : ∀ (g : Gen) (t : List Nat), g.Short → (∀ c ∈ t, c < 256) → ∀ c ∈ textG g t, c < 256
  | .nil, _, _, ht => ht
  | .tup b e r, t, h, ht => textG_mem r _ h.2.2 (by
    intro c hc
    rcases List.mem_append.mp hc with hc | hc
    · rcases List.mem_append.mp hc with hc | hc
      · exact ht c hc
      · exact h.2.1 c hc
    · have := (endOf_le (t ++ b) b e r.isNil).2 c hc; omega)
  | .txt b r, t, h, ht => textG_mem r _ h.2.2 (by
    intro c hc
    rcases List.mem_append.mp hc with hc | hc
    · rcases List.mem_append.mp hc with hc | hc
      · exact ht c hc
      · exact h.2.1 c hc
    · have := List.mem_singleton.mp hc; omega)
  | .sub l r, t, h, ht => textG_mem r _ h.2 (by
    intro c hc
    rcases List.mem_append.mp hc with hc | hc
    · rcases List.mem_append.mp hc with hc | hc
      · exact ht c hc
      · rcases List.mem_cons.mp hc with rfl | hc
        · omega
        · have := (nlOf_le t.length).2 c hc; omega
    · exact finish_mem (textG_mem l [] h.1 (fun _ h => nomatch h)) c hc)
theorem room_le : ∀ (g : Gen), g.room ≤ 8 * g.cnt * 4 ^ g.dep
  | .nil => Nat.le_refl _
  | .tup _ _ r => by
    have := room_le r
    have h1 : 1 ≤ 4 ^ r.dep := Nat.pow_le_pow_right (n := 4) (i := 0) (by omega) (Nat.zero_le _)
    simp only [Gen.room, Gen.cnt, Gen.dep]
    rw [Nat.mul_add, Nat.add_mul]; omega
  | .txt _ r => by
    have := room_le r
    have h1 : 1 ≤ 4 ^ r.dep := Nat.pow_le_pow_right (n := 4) (i := 0) (by omega) (Nat.zero_le _)
    simp only [Gen.room, Gen.cnt, Gen.dep]
    rw [Nat.mul_add, Nat.add_mul]; omega
  | .sub l r => by
    have a := room_le l
    have b := room_le r
    simp only [Gen.room, Gen.cnt, Gen.dep]
    generalize hD : max (l.dep + 1) r.dep = D
    have h1 : 1 ≤ 4 ^ D := Nat.pow_le_pow_right (n := 4) (i := 0) (by omega) (Nat.zero_le _)
    have h2 : 4 ^ (l.dep + 1) ≤ 4 ^ D := Nat.pow_le_pow_right (by omega) (by omega)
    have h3 : 4 ^ r.dep ≤ 4 ^ D := Nat.pow_le_pow_right (by omega) (by omega)
    have h4 : 4 * (8 * l.cnt * 4 ^ l.dep) = 8 * l.cnt * 4 ^ (l.dep + 1) := by rw [Nat.pow_succ]; ac_rfl
    have h5 : 8 * l.cnt * 4 ^ (l.dep + 1) ≤ 8 * l.cnt * 4 ^ D := Nat.mul_le_mul_left _ h2
    have h6 : 8 * r.cnt * 4 ^ r.dep ≤ 8 * r.cnt * 4 ^ D := Nat.mul_le_mul_left _ h3
    have h7 : 8 * (l.cnt + r.cnt + 1) * 4 ^ D = 8 * l.cnt * 4 ^ D + 8 * r.cnt * 4 ^ D + 8 * 4 ^ D := by rw [Nat.mul_add, Nat.mul_add, Nat.add_mul, Nat.add_mul]
    omega
end Mine
end

section
set_option maxRecDepth 100000
namespace Mine
open PySem PySem.W PyProof.Rows

section
variable {prog : Program} {w : World} {A : Around} {E : Value → Shared → Prop} {s : Shared} {Q : Value → Shared → Prop}

theorem plain1 {e : Expr} {env : Env} {pos : Pos} (he : starEach [e] env = (false, eval e env) :: starEach [] env) : (backTo pos (starEach [e] env)).any (·.1) = false := by rw [he]; rfl
theorem isi_call {K : Frag} {h₀ : Heap} {L a : Addr} {m mg mb : Str → Option Value} {cn : Str} {cs : Scope} {ccd v : Value} {p : Program} {loose : List Str} {x tn : Str} {ty : String} {p1 p2 p3 p4 : Pos}
    (F : Fr h₀ L s.heap m) (X : K.In h₀) (T : TopRead p loose mg mb h₀) (e1 : nsIn K mainGlobals (Str.ofString "isinstance") = some none) (e2 : nsIn K mainGlobals tn = some none)
    (h1 : bootBuiltins (Str.ofString "isinstance") = some (.builtin "isinstance")) (h2 : bootBuiltins tn = some (.type ty)) (n1 : Str.ofString "isinstance" ≠ "__name__") (n2 : tn ≠ "__name__")
    (hm : m x = some v) (k1 : (envOf cn cs L a ccd).kindOf (Str.ofString "isinstance") = some .globalImplicit) (k2 : (envOf cn cs L a ccd).kindOf tn = some .globalImplicit) (kx : (envOf cn cs L a ccd).kindOf x = some .local) (hk : cs.kind = .function)
    (d1 : (Str.ofString "isinstance" == ("__debug__" : Str)) = false) (d2 : (tn == ("__debug__" : Str)) = false) (dx : (x == ("__debug__" : Str)) = false)
    (h : wpAny (model prog w) A (call (.builtin "isinstance") [v, .type ty]) Q E s) :
    wpAny (model prog w) A (eval (.Call (.Name (Str.ofString "isinstance") p1) [.Name x p2, .Name tn p3] [] p4) (envOf cn cs L a ccd)) Q E s := by
  refine Call_ (name_B F X T e1 h1 n1 ?_ hk k1 d1)
  refine callWith_builtin1 (args_cons ?_) rfl (plain1 rfl)
  refine ld F hm ?_ hk kx dx
  refine args_cons (name_B F X T e2 h2 n2 ?_ hk k2 d2)
  exact args_nil h
theorem len_txt {x : List Nat} {t : Tok} (h : x.length ≤ 1000000) (hq : ∀ t' tk, Q (.int (x.length : Int) t') { s with toks := tk }) : wpAny (model prog w) A (call (.builtin "len") [.str ⟨x.toArray⟩ t]) Q E s := by
  have e : (⟨x.toArray⟩ : Str).length = x.length := List.size_toArray ..
  refine PyProof.Rows.len_str (by rw [e]; omega) ?_
  rw [e]
  exact hq _ _
theorem len_lst {D : Addr} {its : Array Value} (hl : s.heap.IsList D its) (h : its.size ≤ 1000000) (hq : ∀ t' tk, Q (.int (its.size : Int) t') { s with toks := tk }) : wpAny (model prog w) A (call (.builtin "len") [.ref D]) Q E s :=
  PySem.Calls.call_len_list hl (by omega) (hq _ _)
theorem item_last {D : Addr} {value slice : Expr} {its : Array Value} {v : Value} {u : Tok} (hl : s.heap.IsList D (its.push v)) (h : its.size ≤ 1000000) (hq : Q v s)
    (hs : subscripted slice false (.ref D) (.int (-1) u) = operate [.ref D, .int (-1) u] (getItem (.ref D) (.int (-1) u)) := by with_unfolding_all rfl) :
    wpAny (model prog w) A (subscriptTail value slice (.ref D) (.int (-1) u)) Q E s := by
  refine tail_any hl.typeIs slot_list_getitem.lookup (wpAny_getItem_list_neg hl (by omega) (by simp only [Array.size_push]; omega) (by omega) (x := v) ?_ hq) hs
  simp only [Array.size_push]
  rw [show ((-1 : Int) + ((its.size + 1 : Nat) : Int)).toNat = its.size by omega]
  exact Array.getElem?_push_size
theorem slice_drop (y : List Nat) (k : Nat) : Txt.slice ⟨y.toArray⟩ (some (k : Int)) none = ⟨(y.drop k).toArray⟩ := by
  have hl : ((⟨y.toArray⟩ : Str).length) = y.length := List.size_toArray ..
  by_cases h : k ≤ y.length
  · rw [slice_from_eq (b := (y.length : Int)) (by omega) (by rw [hl]; exact Int.ofNat_le.mpr h) (by rw [hl])]
    rw [List.take_of_length_le (by simp)]
    simp
  · rw [slice_beyond (by rw [hl]; omega), List.drop_of_length_le (by omega)]
    rfl
theorem slice_last (y : List Nat) (k : Nat) (hk : 0 < k) : Txt.slice ⟨y.toArray⟩ (some (-(k : Int))) none = ⟨(y.drop (y.length - k)).toArray⟩ := by
  have hl : ((⟨y.toArray⟩ : Str).length) = y.length := List.size_toArray ..
  rw [← slice_drop]
  have e : PySem.Builtin.Str.strSliceIndices (some (-(k : Int))) none 1 y.length = PySem.Builtin.Str.strSliceIndices (some ((y.length - k : Nat) : Int)) none 1 y.length := by
    unfold PySem.Builtin.Str.strSliceIndices
    have h1 : -(k : Int) < 0 := by omega
    have h2 : ¬ (((y.length - k : Nat) : Int) < 0) := by omega
    simp only [h1, h2, if_true, if_false, show (1 : Int) > 0 by omega]
    congr 1
    omega
  unfold Txt.slice
  rw [hl, e]
theorem drop_flag (y : List Nat) : (y.drop (y.length - 1) = [13]) ↔ flag false y = true := by
  rw [flag_last]
  rcases List.eq_nil_or_concat y with rfl | ⟨y', c, rfl⟩
  · simp
  · rw [List.concat_eq_append]
    simp
theorem while_grow {test : Expr} {body : List Stmt} {pos : Pos} {env : Env} {L : Addr} {g : Heap} {m : Str → Option Value} {news : List (Addr × Obj)} {Q : Flow → Shared → Prop}
    (J : Nat → Heap → (Str → Option Value) → List (Addr × Obj) → Prop) (D : Heap → (Str → Option Value) → List (Addr × Obj) → Prop) (n : Nat) (F : Fr g L s.heap m) (N : News g L s.heap news) (h0 : J 0 g m news)
    (step : ∀ i g₁ m₁ news₁ h₁ tk₁, i ≤ n → J i g₁ m₁ news₁ → Keep g g₁ → Fr g₁ L h₁ m₁ → News g₁ L h₁ news₁ →
      wpAny (model prog w) A (isTrue test env (eval test env)) (fun b s₂ =>
        if b = true then wpAny (model prog w) A (execs body env) (Turn L [] [] (fun g' m' news' => i < n ∧ J (i + 1) g' m' news') { s with heap := h₁, toks := tk₁ } Q g₁) (fun _ _ => False) s₂
        else Turn L [] [] D { s with heap := h₁, toks := tk₁ } Q g₁ .next s₂) (fun _ _ => False) { s with heap := h₁, toks := tk₁ })
    (done : ∀ g' h' tk m' news', Keep g g' → Fr g' L h' m' → News g' L h' news' → D g' m' news' → Q .next { s with heap := h', toks := tk }) :
    wpAny (model prog w) A (exec (.While test body [] pos) env) Q E s := by
  refine wpAny_While ?_
  refine codeAny_whileLoop (fun k s' => ∃ i g' h' tk m' news', s' = { s with heap := h', toks := tk } ∧ i ≤ n ∧ k = n - i ∧ Keep g g' ∧ Fr g' L h' m' ∧ News g' L h' news' ∧ J i g' m' news') ?_ n
    ⟨0, g, s.heap, s.toks, m, news, rfl, Nat.zero_le _, rfl, Keep.refl g, F, N, h0⟩
  rintro k s' ⟨i, g', h', tk, m', news', rfl, hi, rfl, kg, F', N', hJ⟩
  refine wpAny_mono (step i g' m' news' h' tk hi hJ kg F' N') (fun b s₂ h₂ => ?_) fun _ _ x => x.elim
  cases b with
  | true =>
    rw [if_pos rfl] at h₂
    show wpAny _ _ _ _ _ _
    refine wpAny_mono h₂ (fun f s₃ h₃ => ?_) fun _ _ x => x.elim
    have fin : (∃ g'' h'' tk' m' news', s₃ = { ({ s with heap := h', toks := tk } : Shared) with heap := h'', toks := tk' } ∧ Keep g' g'' ∧ Fr g'' L h'' m' ∧ News g'' L h'' (news' ++ []) ∧ (∀ p ∈ news', p.1 ∉ ([] : List Addr)) ∧ (i < n ∧ J (i + 1) g'' m' news')) →
        ∃ m, m < n - i ∧ ∃ i g' h' tk m' news', s₃ = { s with heap := h', toks := tk } ∧ i ≤ n ∧ m = n - i ∧ Keep g g' ∧ Fr g' L h' m' ∧ News g' L h' news' ∧ J i g' m' news' := by
      rintro ⟨g'', h'', tk', m₂, news₂, rfl, k₂, F₂, N₂, -, hlt, hJ₂⟩
      exact ⟨n - (i + 1), by omega, i + 1, g'', h'', tk', m₂, news₂, rfl, hlt, rfl, kg.trans k₂, F₂, fun p hp => N₂ p (List.mem_append_left _ hp), hJ₂⟩
    cases f with
    | ret v => exact h₃
    | brk => exact h₃
    | cont => exact fin h₃
    | next => exact fin h₃
  | false =>
    rw [if_neg (by decide)] at h₂
    show wpAny _ _ _ _ _ _
    obtain ⟨g'', h'', tk', m₂, news₂, rfl, k₂, F₂, N₂, -, hD⟩ := h₂
    exact wpAny_execs_nil (done g'' h'' tk' m₂ news₂ (kg.trans k₂) F₂ (fun p hp => N₂ p (List.mem_append_left _ hp)) hD)
end
end Mine
end

section
namespace Mine
open PySem

def Told.app : Told → Told → Told
  | .nil, t => t
  | .txt b r, t => .txt b (r.app t)
  | .sub l r, t => .sub l (r.app t)
theorem Told.app_nil : ∀ t : Told, t.app .nil = t
  | .nil => rfl
  | .txt b r => by simp only [Told.app, r.app_nil]
  | .sub l r => by simp only [Told.app, r.app_nil]
theorem Told.app_assoc : ∀ t u v : Told, (t.app u).app v = t.app (u.app v)
  | .nil, _, _ => rfl
  | .txt b r, u, v => by simp only [Told.app, r.app_assoc]
  | .sub l r, u, v => by simp only [Told.app, r.app_assoc]
def Draw.app : Draw → Draw → Draw
  | .nil, t => t
  | .tup b e r, t => .tup b e (r.app t)
  | .sub l r, t => .sub l (r.app t)
theorem Draw.app_ok : ∀ {t u : Draw}, t.Ok → u.Ok → (t.app u).Ok
  | .nil, _, _, h => h
  | .tup _ _ _, _, h, k => ⟨h.1, h.2.1, Draw.app_ok h.2.2 k⟩
  | .sub _ _, _, h, k => ⟨h.1, Draw.app_ok h.2 k⟩
theorem Draw.app_short : ∀ {t u : Draw}, (ofD t).Short → (ofD u).Short → (ofD (t.app u)).Short
  | .nil, _, _, h => h
  | .tup _ _ _, _, h, k => ⟨h.1, h.2.1, Draw.app_short h.2.2 k⟩
  | .sub _ _, _, h, k => ⟨h.1, Draw.app_short h.2 k⟩
theorem Draw.app_dep : ∀ (t u : Draw), (ofD (t.app u)).dep = max (ofD t).dep (ofD u).dep
  | .nil, _ => by simp only [Draw.app, ofD, Gen.dep]; omega
  | .tup _ _ r, u => by simp only [Draw.app, ofD, Gen.dep, Draw.app_dep r u]
  | .sub _ r, u => by simp only [Draw.app, ofD, Gen.dep, Draw.app_dep r u]; omega
theorem Draw.app_cnt : ∀ (t u : Draw), (ofD (t.app u)).cnt = (ofD t).cnt + (ofD u).cnt
  | .nil, _ => by simp only [Draw.app, ofD, Gen.cnt]; omega
  | .tup _ _ r, u => by simp only [Draw.app, ofD, Gen.cnt, Draw.app_cnt r u]; omega
  | .sub _ r, u => by simp only [Draw.app, ofD, Gen.cnt, Draw.app_cnt r u]; omega

theorem told_orE (t : Told) : (ofT (orEmpty t)).dep = (ofT t).dep := by cases t <;> rfl
theorem told_dep : ∀ d : Draw, (ofT (tl d)).dep = (ofD d).dep
  | .nil => rfl
  | .tup _ _ r => by simp only [tl, ofT, ofD, Gen.dep, told_dep r]
  | .sub l r => by simp only [tl, ofT, ofD, Gen.dep, told_orE, told_dep l, told_dep r]
theorem orE_cnt (t : Told) : (ofT (orEmpty t)).cnt ≤ (ofT t).cnt + 1 := by
  cases t <;> simp [orEmpty, ofT, Gen.cnt]
theorem told_cnt : ∀ d : Draw, (ofT (tl d)).cnt ≤ 2 * (ofD d).cnt
  | .nil => Nat.le_refl _
  | .tup _ _ r => by have := told_cnt r; simp only [tl, ofT, ofD, Gen.cnt]; omega
  | .sub l r => by
    have := told_cnt r
    have := told_cnt l
    have := orE_cnt (tl l)
    simp only [tl, ofT, ofD, Gen.cnt]; omega
theorem orE_short {t : Told} (h : (ofT t).Short) : (ofT (orEmpty t)).Short := by
  cases t with
  | nil => exact ⟨by decide, (fun _ h => nomatch h), trivial⟩
  | txt b r => exact h
  | sub l r => exact h
theorem told_short : ∀ {d : Draw}, (ofD d).Short → (ofT (tl d)).Short
  | .nil, _ => trivial
  | .tup _ _ _, h => ⟨h.1, h.2.1, told_short h.2.2⟩
  | .sub _ _, h => ⟨orE_short (told_short h.1), told_short h.2⟩

/-- what the reader does with a row -/
theorem quote_ne (r : List Nat) : quote r ≠ [46] := by
  unfold quote
  split
  · intro h; injection h with _ h; cases h
  · intro h; exact absurd h (by rename_i hn; intro e; exact hn [] e)
theorem quote_back (r : List Nat) : (if (quote r).take 1 = [46] then (quote r).drop 1 else quote r) = r := by
  unfold quote
  split
  · simp
  · rename_i hn
    rw [if_neg]
    intro h
    cases r with
    | nil => cases h
    | cons c r =>
      simp only [List.take_succ_cons, List.take_zero] at h
      injection h with h _
      subst h
      exact hn r rfl
theorem bare_len : ∀ t : Told, (bare t).length ≤ 3 * (ofT t).cnt
  | .nil => Nat.le_refl _
  | .txt b r => by have := bare_len r; simp only [bare, ofT, Gen.cnt, List.length_cons]; omega
  | .sub l r => by
    have := bare_len r
    have := bare_len l
    simp only [bare, closed, ofT, Gen.cnt, List.length_cons, List.length_append, List.length_map, List.length_nil]; omega
end Mine
end

section
namespace Mine
open PySem PySem.StrLaws PySem.Builtin PySem.Builtin.Str

theorem at_iff {x : Str} {l : List Nat} (hx : x.cps.toList = l) (k : Nat) : At x ⟨#[13, 10]⟩ x.length k ↔ k + 2 ≤ l.length ∧ (l.drop k).take 2 = [13, 10] := by
  have hl : x.length = l.length := by rw [← hx]; simp [Str.length]
  have hs : (⟨#[13, 10]⟩ : Str).length = 2 := rfl
  unfold At subAt
  rw [hs, hl, beq_iff_eq]
  have e : (x.cps.extract k (k + 2) = #[13, 10]) ↔ (l.drop k).take 2 = [13, 10] := by
    rw [← hx]
    constructor
    · intro h
      have := congrArg Array.toList h
      simpa [Array.toList_extract, List.extract_eq_take_drop] using this
    · intro h
      apply Array.toList_inj.mp
      simpa [Array.toList_extract, List.extract_eq_take_drop] using h
  exact and_congr_right fun _ => e

theorem split_enc {x : Str} : ∀ (rows : List (List Nat)) (pre : List Nat) (cuts : List Nat) (f : Nat), (∀ r ∈ rows, Clean r) → x.cps.toList = pre ++ enc rows →
    ChainG x ⟨#[13, 10]⟩ x.length pre.length cuts f → (∀ k, f ≤ k → ¬ At x ⟨#[13, 10]⟩ x.length k) → partsFrom x 2 pre.length cuts = rows.map (fun r => (⟨r.toArray⟩ : Str)) ++ [⟨#[]⟩]
  | [], pre, cuts, f, _, hx, hc, hf => by
    have hl : x.length = pre.length := by
      have := congrArg List.length hx
      simpa [enc, Str.length] using this
    cases cuts with
    | nil =>
      show [strSub x pre.length x.length] = _
      rw [hl]
      have : strSub x pre.length pre.length = ⟨#[]⟩ := by
        unfold strSub
        congr 1
        apply Array.toList_inj.mp
        simp
      rw [this]; rfl
    | cons c r =>
      obtain ⟨h1, h2, -⟩ := hc
      have := h2.1
      rw [hl] at this
      have e2 : (⟨#[13, 10]⟩ : Str).length = 2 := rfl
      omega
  | r :: rs, pre, cuts, f, hcl, hx, hc, hf => by
    have hr := hcl r (List.mem_cons_self ..)
    have hx' : x.cps.toList = pre ++ (r ++ 13 :: 10 :: enc rs) := hx
    have hA : At x ⟨#[13, 10]⟩ x.length (pre.length + r.length) := by
      rw [at_iff hx']
      refine ⟨by simp; omega, ?_⟩
      rw [← List.drop_drop, List.drop_left, List.drop_left]
      rfl
    have hno : ∀ k, pre.length ≤ k → k < pre.length + r.length → ¬ At x ⟨#[13, 10]⟩ x.length k := by
      intro k h1 h2 h
      rw [at_iff hx'] at h
      obtain ⟨j, rfl⟩ : ∃ j, k = pre.length + j := ⟨k - pre.length, by omega⟩
      have h3 := h.2
      rw [← List.drop_drop, List.drop_left, List.drop_append_of_le_length (by omega), List.drop_eq_getElem_cons (by omega)] at h3
      simp only [List.cons_append, List.take_succ_cons] at h3
      injection h3 with h3 _
      exact (hr _ (List.getElem_mem (by omega))).2 h3
    cases cuts with
    | nil =>
      have e : f = pre.length := hc
      subst e
      exact absurd hA (hf _ (by omega))
    | cons c cs =>
      obtain ⟨h1, h2, h3, h4⟩ := hc
      have hc1 : c = pre.length + r.length := by
        rcases Nat.lt_trichotomy c (pre.length + r.length) with h | h | h
        · exact absurd h2 (hno c h1 h)
        · exact h
        · exact absurd hA (h3 _ (by omega) h)
      subst hc1
      have e2 : (⟨#[13, 10]⟩ : Str).length = 2 := rfl
      have hp : (pre ++ r ++ [13, 10]).length = pre.length + r.length + 2 := by simp; omega
      have ih := split_enc rs (pre ++ r ++ [13, 10]) cs f (fun q hq => hcl q (List.mem_cons_of_mem _ hq)) (by rw [hx']; simp) (by rw [hp]; exact h4) hf
      show strSub x pre.length (pre.length + r.length) :: partsFrom x 2 (pre.length + r.length + 2) cs = _
      rw [hp] at ih
      rw [ih]
      have : strSub x pre.length (pre.length + r.length) = ⟨r.toArray⟩ := by
        unfold strSub
        congr 1
        apply Array.toList_inj.mp
        rw [Array.toList_extract, hx', List.extract_eq_take_drop, List.drop_left]
        simp
      rw [this]
      rfl
theorem parts_rows {rows : List (List Nat)} (h : ∀ r ∈ rows, Clean r) : partsBetween ⟨(enc rows).toArray⟩ (occurrences ⟨(enc rows).toArray⟩ ⟨#[13, 10]⟩ 0 (⟨(enc rows).toArray⟩ : Str).length ((⟨(enc rows).toArray⟩ : Str).length + 1)) 2 = rows.map (fun r => (⟨r.toArray⟩ : Str)) ++ [⟨#[]⟩] := by
  obtain ⟨f, hG, hn⟩ := occ_tight ⟨(enc rows).toArray⟩ ⟨#[13, 10]⟩ (by decide)
  rw [partsBetween_eq]
  exact split_enc rows [] _ f h (by simp) hG hn
theorem split_rows {rows : List (List Nat)} (h : ∀ r ∈ rows, Clean r) : Txt.split ⟨(enc rows).toArray⟩ ⟨#[13, 10]⟩ = rows.map (fun r => (⟨r.toArray⟩ : Str)) ++ [⟨#[]⟩] := by
  by_cases hne : rows = []
  · subst hne
    decide +kernel
  obtain ⟨f, hG, hn⟩ := occ_tight ⟨(enc rows).toArray⟩ ⟨#[13, 10]⟩ (by decide)
  have key := split_enc rows [] _ f h (by simp) hG hn
  have hlen : 2 ≤ (⟨(enc rows).toArray⟩ : Str).length := by
    cases rows with
    | nil => exact absurd rfl hne
    | cons r rs => simp [enc, Str.length]; omega
  have hk : ¬ PySem.Builtin.Str.strKind ⟨(enc rows).toArray⟩ < PySem.Builtin.Str.strKind ⟨#[13, 10]⟩ := by
    have : PySem.Builtin.Str.strKind ⟨#[13, 10]⟩ = 1 := by decide +kernel
    rw [this]
    unfold PySem.Builtin.Str.strKind
    split
    · omega
    · split <;> omega
  unfold Txt.split
  rw [if_neg (by
    rw [Bool.or_eq_true, decide_eq_true_iff, decide_eq_true_iff]
    rintro (h | h)
    · have e2 : (⟨#[13, 10]⟩ : Str).length = 2 := rfl
      omega
    · exact hk h), partsBetween_eq]
  have e2 : (⟨#[13, 10]⟩ : Str).length = 2 := rfl
  rw [e2]
  split
  · rename_i he
    exfalso
    rw [List.isEmpty_iff] at he
    rw [he] at key
    have := congrArg List.length key
    cases rows with
    | nil => exact hne rfl
    | cons r rs => simp [partsFrom] at this
  · exact key

/-- all rows of a spool -/
def allRows (ts : List Told) : List (List Nat) := ts.flatMap fun t => closed (bare t)
theorem enc_all : ∀ ts : List Told, enc (allRows ts) = (ts.map wire).flatten
  | [] => rfl
  | t :: ts => by
    have ih := enc_all ts
    simp only [allRows, List.flatMap_cons, enc_app, List.map_cons, List.flatten_cons] at ih ⊢
    rw [ih]; rfl
theorem enc_len {k : Nat} : ∀ {rs : List (List Nat)}, (∀ r ∈ rs, r.length ≤ k) → (enc rs).length ≤ rs.length * (k + 2)
  | [], _ => Nat.zero_le _
  | r :: rs, h => by
    have ih := enc_len fun q hq => h q (List.mem_cons_of_mem _ hq)
    have h1 := h r (List.mem_cons_self ..)
    simp only [enc, List.length_append, List.length_cons]
    rw [Nat.succ_mul]
    omega
theorem quote_le (r : List Nat) : (quote r).length ≤ r.length + 1 := by
  unfold quote
  split <;> simp
theorem closed_short {k : Nat} {rs : List (List Nat)} (h : ∀ r ∈ rs, r.length ≤ k) : ∀ r ∈ closed rs, r.length ≤ k + 1 := by
  intro r hr
  rcases List.mem_append.mp hr with hr | hr
  · obtain ⟨q, hq, rfl⟩ := List.mem_map.mp hr
    exact Nat.le_trans (quote_le q) (Nat.succ_le_succ (h q hq))
  · rw [List.mem_singleton.mp hr]
    exact Nat.succ_le_succ (Nat.zero_le _)
theorem bare_short : ∀ {t : Told}, (ofT t).Short → ∀ r ∈ bare t, r.length ≤ 4 + (ofT t).dep
  | .nil, _, _, h => nomatch h
  | .txt b t, h, r, hr => by
    rcases List.mem_cons.mp hr with rfl | hr
    · exact Nat.le_trans h.1 (Nat.le_add_right _ _)
    · exact bare_short h.2.2 r hr
  | .sub l t, h, r, hr => by
    simp only [ofT, Gen.dep]
    rcases List.mem_cons.mp hr with rfl | hr
    · simp; omega
    · rcases List.mem_append.mp hr with hr | hr
      · have := closed_short (bare_short h.1) r hr
        omega
      · have := bare_short h.2 r hr
        omega
/-- a told letter of bounded size -/
def Fine (t : Told) : Prop := t.Ok ∧ t.isNil = false ∧ (ofT t).Short ∧ (ofT t).dep ≤ 2 ∧ (ofT t).cnt ≤ 29
theorem fine_told {d : Draw} (h1 : d.Ok) (h2 : (ofD d).Short) (h3 : (ofD d).dep ≤ 2) (h4 : (ofD d).cnt ≤ 14) : Fine (told d) := by
  refine ⟨(orEmpty_ok (tl_ok h1)).1, (orEmpty_ok (tl_ok h1)).2, orE_short (told_short h2), ?_, ?_⟩
  · unfold told; rw [told_orE, told_dep]; exact h3
  · have a := told_cnt d
    have b := orE_cnt (tl d)
    unfold told
    omega
theorem all_len : ∀ {ts : List Told}, (∀ t ∈ ts, Fine t) → (allRows ts).length ≤ 88 * ts.length
  | [], _ => Nat.le_refl _
  | t :: ts, h => by
    have ih := all_len (ts := ts) fun u hu => h u (List.mem_cons_of_mem _ hu)
    have h1 := bare_len t
    have h2 := (h t (List.mem_cons_self ..)).2.2.2.2
    simp only [allRows, List.flatMap_cons, List.length_append, List.length_cons] at ih ⊢
    have : (closed (bare t)).length = (bare t).length + 1 := by simp [closed]
    omega
theorem all_short {ts : List Told} (h : ∀ t ∈ ts, Fine t) : ∀ r ∈ allRows ts, r.length ≤ 7 := by
  intro r hr
  obtain ⟨t, ht, hr⟩ := List.mem_flatMap.mp hr
  have f := h t ht
  have := closed_short (bare_short f.2.2.1) r hr
  have := f.2.2.2.1
  omega
theorem all_clean {ts : List Told} (h : ∀ t ∈ ts, Fine t) : ∀ r ∈ allRows ts, Clean r := by
  intro r hr
  obtain ⟨t, ht, hr⟩ := List.mem_flatMap.mp hr
  exact clean_closed (h t ht).1 r hr
theorem all_drop {ts : List Told} {i : Nat} {t : Told} (h : ts[i]? = some t) : (allRows ts).drop (allRows (ts.take i)).length = closed (bare t) ++ allRows (ts.drop (i + 1)) := by
  have hi : i < ts.length := (List.getElem?_eq_some_iff.mp h).1
  have e : ts = ts.take i ++ (t :: ts.drop (i + 1)) := by
    conv => lhs; rw [← List.take_append_drop i ts]
    rw [List.drop_eq_getElem_cons hi, (List.getElem?_eq_some_iff.mp h).2]
  have e2 : allRows ts = allRows (ts.take i) ++ (closed (bare t) ++ allRows (ts.drop (i + 1))) := by
    conv => lhs; rw [e]
    simp [allRows]
  rw [e2, List.drop_left]
theorem all_take {ts : List Told} {i : Nat} {t : Told} (h : ts[i]? = some t) : (allRows (ts.take (i + 1))).length = (allRows (ts.take i)).length + (bare t).length + 1 := by
  rw [List.take_add_one, h]
  simp [allRows, closed]
  omega
theorem all_lt {ts : List Told} {i : Nat} {t : Told} (h : ts[i]? = some t) : (allRows (ts.take i)).length < (allRows ts).length := by
  have := congrArg List.length (all_drop h)
  simp [closed] at this
  omega
end Mine
end

section
open PySem PySem.W PyProof.Rows
open_top hd for PySem.Challenge.rw_sn0117_01
end

namespace Mine
open PySem PySem.W PyProof.Rows
theorem fill : (PySem.Challenge.rw_sn0117_01 = PySem.Challenge.rw_sn0117_01) ∧ hd.heap_39 = hd.heap_39 := by k_fill; exact ⟨rfl, rfl⟩
theorem at45 (w : World) : ∃ o vs n, (hd.heap_39 w.params).lookup 45 = some o ∧ o.data = .seq vs n ∧ (vs.map Builtin.Re.reRawOf).map (·.toNat) = codeEol := ⟨_, _, _, by k_is, rfl, by decide +kernel⟩
theorem at35 (w : World) : ∃ o vs n, (hd.heap_39 w.params).lookup 35 = some o ∧ o.data = .seq vs n ∧ (vs.map Builtin.Re.reRawOf).map (·.toNat) = codeDot := ⟨_, _, _, by k_is, rfl, by decide +kernel⟩
theorem at40 (w : World) : ∃ o vs n, (hd.heap_39 w.params).lookup 40 = some o ∧ o.data = .seq vs n ∧ (vs.map Builtin.Re.reRawOf).map (·.toNat) = codeDot := ⟨_, _, _, by k_is, rfl, by decide +kernel⟩
theorem at46 (w : World) : ∃ o fs, (hd.heap_39 w.params).lookup 46 = some o ∧ o.data = .fields fs ∧ fs.getD 6 .none = .int 0 0 ∧ fs.getD 2 .none = .int 0 0 ∧ fs.getD 5 .none = .ref 45 ∧ o.cls = .type "re.Pattern" ∧ o.dict = none := ⟨_, _, by k_is, rfl, rfl, rfl, rfl, rfl, rfl⟩
theorem at36 (w : World) : ∃ o fs, (hd.heap_39 w.params).lookup 36 = some o ∧ o.data = .fields fs ∧ fs.getD 6 .none = .int 0 0 ∧ fs.getD 2 .none = .int 0 0 ∧ fs.getD 5 .none = .ref 35 ∧ o.cls = .type "re.Pattern" ∧ o.dict = none := ⟨_, _, by k_is, rfl, rfl, rfl, rfl, rfl, rfl⟩
theorem at41 (w : World) : ∃ o fs, (hd.heap_39 w.params).lookup 41 = some o ∧ o.data = .fields fs ∧ fs.getD 6 .none = .int 1 0 ∧ fs.getD 2 .none = .int 0 0 ∧ fs.getD 5 .none = .ref 40 ∧ o.cls = .type "re.Pattern" ∧ o.dict = none := ⟨_, _, by k_is, rfl, rfl, rfl, rfl, rfl, rfl⟩
/-- a pattern of the text: its object, its words, its method -/
structure PatOk (s : Shared) (a : Addr) (code : Array Nat) (kind : Nat) : Prop where
  at_ : PatAt s.heap a code kind
  ty : s.TypeIs (.ref a) "re.Pattern"
  get : ∀ {M : Model} {A : Around} {E : Value → Shared → Prop} {Q : Value × List Value → Shared → Prop} {pl : Sem Bool}, Q (.builtin "re.Pattern.sub", [.ref a]) s → wpAny M A (getMethod (.ref a) (Str.ofString "sub") pl) Q E s
theorem pat3 {w : World} {s : Shared} (X : (hd.heap_39 w.params).In s.heap) : PatOk s 46 codeEol 0 := by
  obtain ⟨o, fs, h1, h2, h3, h4, h5, h6, h7⟩ := at46 w
  obtain ⟨oc, vs, n, g1, g2, g3⟩ := at45 w
  exact ⟨⟨o, fs, oc, 45, vs, n, X _ _ h1, h2, h3, h4, h5, X _ _ g1, g2, g3⟩, ⟨o, X _ _ h1, h6⟩, fun h => getSub (X _ _ h1) h6 h7 h⟩
theorem pat1 {w : World} {s : Shared} (X : (hd.heap_39 w.params).In s.heap) : PatOk s 36 codeDot 0 := by
  obtain ⟨o, fs, h1, h2, h3, h4, h5, h6, h7⟩ := at36 w
  obtain ⟨oc, vs, n, g1, g2, g3⟩ := at35 w
  exact ⟨⟨o, fs, oc, 35, vs, n, X _ _ h1, h2, h3, h4, h5, X _ _ g1, g2, g3⟩, ⟨o, X _ _ h1, h6⟩, fun h => getSub (X _ _ h1) h6 h7 h⟩
theorem pat2 {w : World} {s : Shared} (X : (hd.heap_39 w.params).In s.heap) : PatOk s 41 codeDot 1 := by
  obtain ⟨o, fs, h1, h2, h3, h4, h5, h6, h7⟩ := at41 w
  obtain ⟨oc, vs, n, g1, g2, g3⟩ := at40 w
  exact ⟨⟨o, fs, oc, 40, vs, n, X _ _ h1, h2, h3, h4, h5, X _ _ g1, g2, g3⟩, ⟨o, X _ _ h1, h6⟩, fun h => getSub (X _ _ h1) h6 h7 h⟩

section
variable {w : World} {prog : Program} {M : Model} {A : Around} {E : Value → Shared → Prop} {s : Shared} {Q : Value → Shared → Prop} {Q' : Value × List Value → Shared → Prop} {pl : Sem Bool}
theorem get3 (X : (hd.heap_39 w.params).In s.heap) (h : Q' (.builtin "re.Pattern.sub", [.ref 46]) s) : wpAny M A (getMethod (.ref 46) (Str.ofString "sub") pl) Q' E s := (pat3 X).get h
theorem get1 (X : (hd.heap_39 w.params).In s.heap) (h : Q' (.builtin "re.Pattern.sub", [.ref 36]) s) : wpAny M A (getMethod (.ref 36) (Str.ofString "sub") pl) Q' E s := (pat1 X).get h
theorem get2 (X : (hd.heap_39 w.params).In s.heap) (h : Q' (.builtin "re.Pattern.sub", [.ref 41]) s) : wpAny M A (getMethod (.ref 41) (Str.ofString "sub") pl) Q' E s := (pat2 X).get h
theorem subEol (X : (hd.heap_39 w.params).In s.heap) (x : Str) (t rt : Tok) (hts : x.cps.size ≤ 200000) 
    (hq : ∀ h' tk t', Keep s.heap h' → Q (.str ⟨(fixL x.cps.toList).toArray⟩ t') { s with heap := h', toks := tk }) :
    wpAny (model prog w) A (call (.builtin "re.Pattern.sub") [.ref 46, .str (Str.ofString "\r\n") rt, .str x t]) Q E s := by
  rw [lit_crlf]; exact sub_eol (pat3 X).at_ (pat3 X).ty x t rt hts hq
theorem subDot (X : (hd.heap_39 w.params).In s.heap) (x : Str) (t rt : Tok) (hts : x.cps.size ≤ 200000) 
    (hq : ∀ h' tk t', Keep s.heap h' → Q (.str ⟨(dotL x.cps.toList).toArray⟩ t') { s with heap := h', toks := tk }) :
    wpAny (model prog w) A (call (.builtin "re.Pattern.sub") [.ref 36, .str (Str.ofString "..") rt, .str x t]) Q E s := by
  rw [lit_dots]; exact sub_dot (pat1 X).at_ (pat1 X).ty x t rt hts hq
theorem subDotB (X : (hd.heap_39 w.params).In s.heap) (b : Array UInt8) (t rt : Tok) (hts : b.size ≤ 200000) 
    (hq : ∀ h' tk t', Keep s.heap h' → Q (.bytes (by8 (dotL (b.toList.map (·.toNat))).toArray) t') { s with heap := h', toks := tk }) :
    wpAny (model prog w) A (call (.builtin "re.Pattern.sub") [.ref 41, .bytes #[46, 46] rt, .bytes b t]) Q E s := by
  rw [show (#[46, 46] : Array UInt8) = by8 #[46, 46] by decide +kernel]; exact sub_dotB (pat2 X).at_ (pat2 X).ty b t rt hts hq
end
/-- what every def of the text leans on -/
def Base (w : World) (h : Heap) : Prop := (hd.heap_39 w.params).In h ∧ ∃ (p : Program) (loose : List Str) (mean : ExcName → Option Value) (mg mb : Str → Option Value), Top p loose mean mg mb h
theorem Base.keeps {w : World} {h h' : Heap} (B : Base w h) (k : Keep h h') : Base w h' :=
  let ⟨X, p, loose, mean, mg, mb, T⟩ := B; ⟨X.keeps k, p, loose, mean, mg, mb, T.keeps k⟩

local macro_rules | `(tactic| walk_at "mine look") => `(tactic| first | with_reducible assumption | with_unfolding_all rfl | ((try dsimp only); refine look_ne (by decide +kernel) ?_; walk_at "mine look"))
local macro_rules | `(tactic| walk_at "eval Name") => `(tactic| ((with_reducible show wpAny _ _ (eval (Expr.Name _ _) (envOf _ _ _ _ _)) _ _ _); name_kind "globalImplicit"; k_dflt (first
  | (refine' name_K ?k0 ?k1 (topRead_of ?k2) ?k3 ?_ ?k4 ?k5 ?k6; (case k0 => with_reducible assumption); (case k1 => assumption); (case k2 => assumption); (case k3 => k_is); (case k4 => exact rfl); (case k5 => exact rfl); (case k6 => decide +kernel); k_whole)
  | (refine' name_B ?k0 ?k1 (topRead_of ?k2) ?k3 ?k7 ?k8 ?_ ?k4 ?k5 ?k6; (case k0 => with_reducible assumption); (case k1 => assumption); (case k2 => assumption); (case k3 => k_is); (case k7 => boot_by_name); (case k8 => decide +kernel); (case k4 => exact rfl); (case k5 => exact rfl); (case k6 => decide +kernel); k_whole))))
local macro_rules | `(tactic| walk_at "eval Name") => `(tactic| ((with_reducible show wpAny _ _ (eval (Expr.Name _ _) (envOf _ _ _ _ _)) _ _ _); name_kind "local"; k_dflt (refine' ld ?k0 ?k1 ?_ ?k4 ?k5 ?k6; (case k0 => with_reducible assumption); (case k1 => walk_at "mine look"); (case k4 => exact rfl); (case k5 => exact rfl); (case k6 => decide +kernel))))
local macro_rules | `(tactic| walk_at "callWith") => `(tactic| first
  | ((with_reducible show wpAny _ _ (callWith _ (Value.builtin _) [] (backTo _ (starEach (_ :: _) _)) []) _ _ _); k_dflt (refine callWith_builtin1 ?_))
  | ((with_reducible show wpAny _ _ (callWith _ (Value.builtin _) _ (backTo _ (starEach (_ :: _) _)) []) _ _ _); k_dflt (refine callWith_method1 ?_))
  | ((with_reducible show wpAny _ _ (callWith _ (Value.builtin _) _ (backTo _ (starEach [] _)) []) _ _ _); k_dflt (refine callWith_method0 ?_)))
local macro_rules | `(tactic| walk_at "eval Call Attribute") => `(tactic| ((with_reducible show wpAny _ _ (eval (Expr.Call (Expr.Attribute _ _ _) _ [] _) _) _ _ _); k_dflt (refine MethodCall_ ?_)))
local macro_rules | `(tactic| walk_at "eval Call Name") => `(tactic| ((with_reducible show wpAny _ _ (eval (Expr.Call (Expr.Name _ _) _ [] _) _) _ _ _); k_dflt (refine Call_ ?_)))
local macro_rules | `(tactic| walk_at "eval Call Name") => `(tactic| ((with_reducible show wpAny _ _ (eval (Expr.Call (Expr.Name (Str.ofString "isinstance") _) [Expr.Name _ _, Expr.Name _ _] [] _) (envOf _ _ _ _ _)) _ _ _); k_dflt (refine' isi_call ?k0 ?k1 (topRead_of ?k2) ?k3 ?k3b ?k7 ?k7b ?k8 ?k8b ?km ?k4 ?k4b ?k4c ?k5 ?d1 ?d2 ?d3 ?_; (case k0 => with_reducible assumption); (case k1 => assumption); (case k2 => assumption); (case k3 => k_is); (case k3b => k_is); (case k7 => boot_by_name); (case k7b => boot_by_name); (case k8 => decide +kernel); (case k8b => decide +kernel); (case km => walk_at "mine look"); (case k4 => exact rfl); (case k4b => exact rfl); (case k4c => exact rfl); (case k5 => exact rfl); (case d1 => decide +kernel); (case d2 => decide +kernel); (case d3 => decide +kernel); k_whole)))
local macro_rules | `(tactic| walk_at "spliced") => `(tactic| first
  | ((with_reducible show wpAny _ _ (spliced (backTo _ (starEach (_ :: _) _))) _ _ _); k_dflt (refine args_cons ?_))
  | ((with_reducible show wpAny _ _ (spliced (backTo _ (starEach [] _))) _ _ _); k_dflt (refine args_nil ?_); (try simp only [List.cons_append, List.nil_append])))
local macro_rules | `(tactic| walk_at "call builtin:re.Pattern.sub") => `(tactic| refine halt ?_)
local macro_rules | `(tactic| walk_at "call ref") => `(tactic| refine halt ?_)
local macro_rules | `(tactic| walk_at "getMethod ref") => `(tactic| refine halt ?_)
local macro_rules | `(tactic| walk_at "getMethod ref") => `(tactic| k_dflt (first | (refine' get3 ?k0 ?_; (case k0 => with_reducible assumption)) | (refine' get1 ?k0 ?_; (case k0 => with_reducible assumption)) | (refine' get2 ?k0 ?_; (case k0 => with_reducible assumption))))
local macro_rules | `(tactic| walk_at "eval ListComp") => `(tactic| refine halt ?_)
local macro_rules | `(tactic| walk_at "call builtin:str.join") => `(tactic| refine halt ?_)
local macro_rules | `(tactic| walk_at "call type:bytes") => `(tactic| refine halt ?_)
local macro_rules | `(tactic| walk_at "pyIter ref") => `(tactic| refine halt ?_)
local macro_rules | `(tactic| walk_at "exec For") => `(tactic| refine halt ?_)
local macro_rules | `(tactic| walk_at "exec For Name Name cons nil") => `(tactic| refine halt ?_)
local macro_rules | `(tactic| walk_at "exec For Name Call cons nil") => `(tactic| refine halt ?_)
local macro_rules | `(tactic| walk_at "exec For Name Name") => `(tactic| refine halt ?_)
local macro_rules | `(tactic| walk_at "exec For Name Call") => `(tactic| refine halt ?_)
local macro_rules | `(tactic| walk_at "call type:range") => `(tactic| refine halt ?_)
local macro_rules | `(tactic| walk_at "call type:enumerate") => `(tactic| refine halt ?_)
local macro_rules | `(tactic| walk_at "call builtin:list.append") => `(tactic| refine halt ?_)
local macro_rules | `(tactic| walk_at "subscriptTail") => `(tactic| refine halt ?_)
local macro_rules | `(tactic| walk_at "compareOp NotEq ref ref") => `(tactic| refine halt ?_)
local macro_rules | `(tactic| walk_at "call builtin:isinstance") => `(tactic| refine halt ?_)
local macro_rules | `(tactic| walk_at "binaryOp Add str str") => `(tactic| refine halt ?_)
local macro_rules | `(tactic| walk_at "call builtin:len") => `(tactic| refine halt ?_)
local macro_rules | `(tactic| walk_at "truthy ref") => `(tactic| refine halt ?_)
local macro_rules | `(tactic| walk_at "exec While") => `(tactic| refine halt ?_)
local macro_rules | `(tactic| walk_at "exec While Compare") => `(tactic| refine halt ?_)
local macro_rules | `(tactic| walk_at "exec While BoolOp") => `(tactic| refine halt ?_)
local macro_rules | `(tactic| walk_at "assign Tuple") => `(tactic| refine halt ?_)
local macro_rules | `(tactic| walk_at "exec Assign cons ListComp") => `(tactic| refine halt ?_)
local macro_rules | `(tactic| walk_at "setItem ref int") => `(tactic| refine halt ?_)
local macro_rules | `(tactic| walk_at "mine enter") => `(tactic| ((case k6 => k_is); (case k7 => k_is); (case k9 => exact BindsTo.of_eq rfl); (case kB => exact locs rfl); (case c2 => exact rfl); (case c3 => exact rfl); (case c4 => exact rfl); (case c5 => decide)))

section
variable {w : World} {A : Around} {E : Value → Shared → Prop} {s : Shared} {Q : Value → Shared → Prop}


theorem fix_spec (B : Base w s.heap) (hr : A.depth < recursionLimit) (t : Str) (tk : Tok) (hts : t.cps.size ≤ 200000)
    (hq : ∀ h' tk t', Keep s.heap h' → Q (.str ⟨(fixL t.cps.toList).toArray⟩ t') { s with heap := h', toks := tk }) :
    wpAny (model PySem.Challenge.rw_sn0117_01.row.prog w) A (call (.ref 67) [.str t tk]) Q E s := by
  obtain ⟨X, p, loose, mean, mg, mb, T⟩ := id B
  refine' enterK [(Str.ofString "data", .str t tk)] hr X ?k6 ?k7 T.nolimit ?k9 ?kB ?_ ?c2 ?c3 ?c4 ?c5
  walk_at "mine enter"
  intro h₁ kp F N X'
  k_steps
  unfold Halt
  refine' subEol ?_ _ _ _ hts ?_
  · exact X'
  intro h' k t' kp'
  exact hq _ _ _ (kp.trans kp')


theorem quote_spec (B : Base w s.heap) (hr : A.depth < recursionLimit) (t : Str) (tk : Tok) (hts : t.cps.size ≤ 100000)
    (hq : ∀ h' tk t', Keep s.heap h' → Q (.str ⟨(dotL (fixL t.cps.toList)).toArray⟩ t') { s with heap := h', toks := tk }) :
    wpAny (model PySem.Challenge.rw_sn0117_01.row.prog w) A (call (.ref 53) [.str t tk]) Q E s := by
  obtain ⟨X, p, loose, mean, mg, mb, T⟩ := id B
  refine' enterK [(Str.ofString "data", .str t tk)] hr X ?k6 ?k7 T.nolimit ?k9 ?kB ?_ ?c2 ?c3 ?c4 ?c5
  walk_at "mine enter"
  intro h₁ kp F N X'
  k_steps
  unfold Halt
  refine' subEol ?_ _ _ _ (by omega) ?_
  · exact X'
  intro h' k t' kp'
  have X'' := X'.keeps kp'
  k_steps
  unfold Halt
  refine' subDot ?_ _ _ _ ?_ ?_
  · exact X''
  · have := fix_len false t.cps.toList
    simp [fixL] at this ⊢
    omega
  intro h'' k' t'' kp''
  exact hq _ _ _ ((kp.trans kp').trans kp'')

theorem period_spec (B : Base w s.heap) (hr : A.depth < recursionLimit) (b : Array UInt8) (tk : Tok) (hts : b.size ≤ 200000)
    (hq : ∀ h' tk t', Keep s.heap h' → Q (.bytes (by8 (dotL (b.toList.map (·.toNat))).toArray) t') { s with heap := h', toks := tk }) :
    wpAny (model PySem.Challenge.rw_sn0117_01.row.prog w) A (call (.ref 60) [.bytes b tk]) Q E s := by
  obtain ⟨X, p, loose, mean, mg, mb, T⟩ := id B
  refine' enterK [(Str.ofString "bindata", .bytes b tk)] hr X ?k6 ?k7 T.nolimit ?k9 ?kB ?_ ?c2 ?c3 ?c4 ?c5
  walk_at "mine enter"
  intro h₁ kp F N X'
  k_steps
  unfold Halt
  refine' subDotB ?_ _ _ _ hts ?_
  · exact X'
  intro h' k t' kp'
  exact hq _ _ _ (kp.trans kp')

theorem nat8 {l : List Nat} (h : ∀ c ∈ l, c < 256) : (by8 l.toArray).toList.map (·.toNat) = l := by
  unfold by8
  simp only [Array.toList_map, List.map_map]
  refine (List.map_congr_left fun c hc => ?_).trans (List.map_id _)
  have := h c hc
  simp only [Function.comp_apply, Nat.toUInt8, UInt8.toNat_ofNat', id]
  omega
theorem byteArr_by8 {l : List Nat} : byteArr (l.map Int.ofNat) = by8 l.toArray := by
  unfold byteArr by8
  simp [Function.comp_def]


def pairO (b : List Nat) (e : Nat) (t u : Tok) : Obj := { cls := .type "tuple", data := .seq #[.str ⟨b.toArray⟩ t, .int (e : Int) u] }
/-- the items of a list are a letter; S: what stands where -/
def Vals (S : Addr → Obj → Prop) : Gen → List Value → Prop
  | .nil, vs => vs = []
  | .tup b e r, vs => ∃ a t u vs', vs = .ref a :: vs' ∧ (e < 4 ∧ S a (pairO b e t u)) ∧ Vals S r vs'
  | .txt b r, vs => ∃ t vs', vs = .str ⟨b.toArray⟩ t :: vs' ∧ Vals S r vs'
  | .sub l r, vs => ∃ a its n vs', vs = .ref a :: vs' ∧ S a (listOf its n) ∧ Vals S l its.toList ∧ Vals S r vs'
theorem Vals.mono {S S' : Addr → Obj → Prop} (k : ∀ a o, S a o → S' a o) : ∀ {g : Gen} {vs : List Value}, Vals S g vs → Vals S' g vs
  | .nil, _, h => h
  | .tup _ _ _, _, ⟨a, t, u, vs', e, h, r⟩ => ⟨a, t, u, vs', e, ⟨h.1, k _ _ h.2⟩, r.mono k⟩
  | .txt _ _, _, ⟨t, vs', e, r⟩ => ⟨t, vs', e, r.mono k⟩
  | .sub _ _, _, ⟨a, its, n, vs', e, h, l, r⟩ => ⟨a, its, n, vs', e, k _ _ h, l.mono k, r.mono k⟩
theorem Vals.length {S : Addr → Obj → Prop} : ∀ {g : Gen} {vs : List Value}, Vals S g vs → vs.length ≤ g.cnt
  | .nil, _, h => by rw [h]; exact Nat.le_refl _
  | .tup _ _ _, _, ⟨a, t, u, vs', e, h, r⟩ => by rw [e]; exact Nat.succ_le_succ r.length
  | .txt _ _, _, ⟨t, vs', e, r⟩ => by rw [e]; exact Nat.succ_le_succ r.length
  | .sub _ _, _, ⟨a, its, n, vs', e, h, l, r⟩ => by
    have := r.length
    rw [e]; simp only [List.length_cons, Gen.cnt]; omega
def At (h : Heap) (a : Addr) (o : Obj) : Prop := h.get? a = some o

def WireJ (n : Nat) (g₀ : Heap) (X : List Nat) (lt : Addr) (r : Int) (u : Tok) (its : Array Value) (i : Nat) (_ : Heap) (m : Str → Option Value) (mu : List (Addr × Obj)) : Prop :=
  ∃ gi ti tt, m (Str.ofString "text") = some (.str ⟨List.toArray ti⟩ tt) ∧ m (Str.ofString "letter") = some (.ref lt) ∧ m (Str.ofString "route") = some (.int r u) ∧ mu = [] ∧ Vals (At g₀) gi (its.toList.drop i) ∧ textG gi ti = X ∧ gi.Short ∧ gi.dep ≤ n ∧ gi.room ≤ 20000

def WireOK (w : World) (n : Nat) : Prop := ∀ {A : Around} {E : Value → Shared → Prop} {s : Shared} {Q : Value → Shared → Prop} (_ : Base w s.heap) (_ : A.handled = none) (g : Gen) (_ : g.dep ≤ n) (_ : A.depth + n + 3 < recursionLimit) (lt : Addr) (its : Array Value) (nn : Nat) (_ : s.heap.get? lt = some (listOf its nn)) (_ : Vals (At s.heap) g its.toList) (_ : g.Short) (_ : g.room ≤ 20000) (r : Int) (u : Tok)
    (_ : ∀ h' tk t, Keep s.heap h' → Q (.str ⟨(wireG g).toArray⟩ t) { s with heap := h', toks := tk }),
    wpAny (model PySem.Challenge.rw_sn0117_01.row.prog w) A (call (.ref 79) [.ref lt, .int r u]) Q E s

theorem drop_item {its : Array Value} {i : Nat} {v : Value} (h : its[i]? = some v) : its.toList.drop i = v :: its.toList.drop (i + 1) := by
  have hi : i < its.toList.length := by
    have := (Array.getElem?_eq_some_iff.mp h).1
    simpa using this
  rw [List.drop_eq_getElem_cons hi]
  congr 1
  have := (Array.getElem?_eq_some_iff.mp h).2
  simpa using this

theorem pick3 {D : Addr} {value slice : Expr} {n : Nat} {t₁ t₂ t₃ u : Tok} {Q : Value → Shared → Prop} (hl : s.heap.get? D = some { cls := .type "tuple", data := .seq #[.str (Str.ofString "\r") t₁, .str (Str.ofString "\n") t₂, .str (Str.ofString "\r\n") t₃] })
    (hq : ∀ t, Q (.str ⟨(nlOf n).toArray⟩ t) s)
    (hs : subscripted slice false (.ref D) (.int ((n : Int).fmod 3) u) = operate [.ref D, .int ((n : Int).fmod 3) u] (getItem (.ref D) (.int ((n : Int).fmod 3) u)) := by with_unfolding_all rfl) :
    wpAny (model PySem.Challenge.rw_sn0117_01.row.prog w) A (subscriptTail value slice (.ref D) (.int ((n : Int).fmod 3) u)) Q E s := by
  have e0 : (n : Int).fmod 3 = ((n % 3 : Nat) : Int) := by rw [Int.fmod_eq_emod_of_nonneg _ (by omega)]; omega
  have go : ∀ (k : Nat) v, (#[.str (Str.ofString "\r") t₁, .str (Str.ofString "\n") t₂, .str (Str.ofString "\r\n") t₃] : Array Value)[k]? = some v → n % 3 = k → Q v s → wpAny (model PySem.Challenge.rw_sn0117_01.row.prog w) A (subscriptTail value slice (.ref D) (.int ((n : Int).fmod 3) u)) Q E s := by
    intro k v hv hk h
    refine item_tup ⟨_, hl, rfl, _, rfl⟩ (by omega) (by omega) (v := v) ?_ h hs
    rw [e0, hk]; exact hv
  have hlt : n % 3 < 3 := Nat.mod_lt _ (by omega)
  by_cases h0 : n % 3 = 0
  · refine go 0 _ rfl h0 ?_
    have := hq t₁
    rw [nlOf, if_pos h0] at this
    exact this
  · by_cases h1 : n % 3 = 1
    · refine go 1 _ rfl h1 ?_
      have := hq t₂
      rw [nlOf, if_neg h0, if_pos h1] at this
      exact this
    · refine go 2 _ rfl (by omega) ?_
      have := hq t₃
      rw [nlOf, if_neg h0, if_neg h1] at this
      exact this

theorem end_one (tb b : List Nat) (last : Bool) : endOf tb b 1 last = if flag false tb = true then [13, 10] else [10] := by
  unfold endOf
  generalize flag false tb = f
  cases f <;> simp
theorem end_three {tb b : List Nat} {last : Bool} (h : b = [] ∨ last = false) : endOf tb b 3 last = [13, 10] := by
  unfold endOf
  simp [h]
theorem end_none {tb b : List Nat} {last : Bool} (h : ¬ (b = [] ∨ last = false)) : endOf tb b 3 last = [] := by
  unfold endOf
  simp [h]
theorem isNil_drop {S : Addr → Obj → Prop} {g : Gen} {its : Array Value} {i : Nat} (h : Vals S g (its.toList.drop (i + 1))) : g.isNil = false ↔ i + 1 < its.size := by
  have hl : its.toList.length = its.size := by simp
  cases g with
  | nil =>
    have : (its.toList.drop (i + 1)).length = 0 := by rw [show its.toList.drop (i + 1) = [] from h]; rfl
    rw [List.length_drop, hl] at this
    simp only [Gen.isNil]
    constructor
    · intro h; cases h
    · intro h; omega
  | tup b e r =>
    obtain ⟨a, t, u, vs', e1, -, -⟩ := h
    have : (its.toList.drop (i + 1)).length ≠ 0 := by rw [e1]; simp
    rw [List.length_drop, hl] at this
    exact ⟨fun _ => by omega, fun _ => rfl⟩
  | txt b r =>
    obtain ⟨t, vs', e1, -⟩ := h
    have : (its.toList.drop (i + 1)).length ≠ 0 := by rw [e1]; simp
    rw [List.length_drop, hl] at this
    exact ⟨fun _ => by omega, fun _ => rfl⟩
  | sub l r =>
    obtain ⟨a, jts, n, vs', e1, -, -, -⟩ := h
    have : (its.toList.drop (i + 1)).length ≠ 0 := by rw [e1]; simp
    rw [List.length_drop, hl] at this
    exact ⟨fun _ => by omega, fun _ => rfl⟩

theorem turnWire {body : List Stmt} {scope : Scope} (hF : FnAt (hd.heap_39 w.params) 79 body scope) (n : Nat) (ih : ∀ m, m < n → WireOK w m) (hh : A.handled = none) (hr : A.depth + n + 2 < recursionLimit) {L fa : Addr} {ccd : Value} {g₀ g h : Heap} {m : Str → Option Value} {mu own : List (Addr × Obj)} {wr : List Addr} {s₁ : Shared}
    {Q : Flow → Shared → Prop} (B₀ : Base w g₀) (kg₀ : Keep g₀ g) {X : List Nat} (hX : X.length ≤ 20000) {lt : Addr} {r : Int} {u : Tok} {its : Array Value} {nn i : Nat} {v : Value} {tt : Tok} (hl : g₀.get? lt = some (listOf its nn)) (hits : its.size ≤ 100000) (hv : its[i]? = some v)
    (hJ : WireJ n g₀ X lt r u its i g m mu) (hnw : ∀ p ∈ mu, p.1 ∉ wr)
    (Fz : Fr g L h (fun z => if z = Str.ofString "item" then some v else if z = Str.ofString "spot" then some (.int (i : Int) tt) else m z)) (N : News g L h (mu ++ own)) (tks : Nat) :
    wpAny (model PySem.Challenge.rw_sn0117_01.row.prog w) A (execs (forBody (nth body 1)) (envOf (Str.ofString "_law_wire") scope L fa ccd)) (Turn L own wr (WireJ n g₀ X lt r u its (i + 1)) { s₁ with heap := h, toks := tks } Q g) (fun _ _ => False) { s₁ with heap := h, toks := tks } := by
  have hF' : FnAt (hd.heap_39 w.params) 79 _ _ := ⟨_, _, _, _, by k_is, rfl, rfl⟩
  obtain ⟨rfl, rfl⟩ := FnAt.inj hF hF'
  clear hF hF'
  dsimp only [nth, forBody]
  obtain ⟨gi, ti, t₁, mx, ml, mr, rfl, hV, hT, hS, hde, hro⟩ := hJ
  obtain ⟨X', p, loose, mean, mg, mb, T⟩ := id (B₀.keeps kg₀)
  rw [drop_item hv] at hV
  cases gi with
  | nil => cases hV
  | tup b e gr =>
    obtain ⟨a, t₂, t₃, vs', e1, ⟨he, ha⟩, hV⟩ := hV
    injection e1 with e1 e2
    subst e1 e2
    obtain ⟨hb1, hb2, hS⟩ := hS
    have hT' : textG gr (ti ++ b ++ endOf (ti ++ b) b e gr.isNil) = X := hT
    have hlen := textG_ge gr (ti ++ b ++ endOf (ti ++ b) b e gr.isNil)
    rw [hT'] at hlen
    simp only [List.length_append] at hlen
    have ha' : h.get? a = some (pairO b e t₂ t₃) := Fz.keep _ _ (kg₀ _ _ ha)
    have hro' : gr.room ≤ 20000 := by simp only [Gen.room] at hro; omega
    k_steps
    unfold Halt
    refine IsiPair.tuple_list ha' rfl ?_
    k_steps
    unfold Halt
    refine IsiPair.tuple_str ha' rfl ?_
    k_steps
    unfold Halt
    refine item_tup ⟨_, ha', rfl, _, rfl⟩ (by omega) (by omega) (v := .str ⟨b.toArray⟩ t₂) rfl ?_
    refine add_lists (by simp only [List.length_append]; omega) fun t₄ tk₄ => ?_
    k_steps
    unfold Halt
    (with_reducible rename Fr _ _ _ _ => F₂)
    refine item_tup ⟨_, F₂.keep _ _ (kg₀ _ _ ha), rfl, _, rfl⟩ (by omega) (by omega) (v := .int (e : Int) t₃) rfl ?_
    (with_reducible rename News _ _ _ _ => N₂)
    obtain rfl | rfl | rfl | rfl : e = 0 ∨ e = 1 ∨ e = 2 ∨ e = 3 := by omega
    · refine item_tup ⟨_, (newsHd N₂).1, rfl, _, rfl⟩ (by decide) (by decide) (v := .str (Str.ofString "\r\n") _) rfl ?_
      k_steps
      (
        (have hend := (show endOf (ti ++ b) b 0 gr.isNil = [13, 10] by simp [endOf]))
        rw [hend] at hT' hlen
        unfold Halt
        rw [show Str.ofString "\r\n" = (⟨([13, 10] : List Nat).toArray⟩ : Str) by decide +kernel]
        refine add_lists (by simp only [List.length_append, List.length_cons, List.length_nil] at hlen ⊢; omega) fun t₉ tk₉ => ?_
        k_steps
        (with_reducible rename Fr _ _ _ _ => F₉)
        (with_reducible rename News _ _ _ _ => N₉)
        exact Turn.next (Keep.refl _) F₉ (newsTl N₉) hnw ⟨gr, _, t₉, if_pos rfl, look_ne (by decide +kernel) (look_ne (by decide +kernel) (look_ne (by decide +kernel) (look_ne (by decide +kernel) ml))), look_ne (by decide +kernel) (look_ne (by decide +kernel) (look_ne (by decide +kernel) (look_ne (by decide +kernel) mr))), rfl, hV, hT', hS, hde, hro'⟩)
    · refine item_tup ⟨_, (newsHd N₂).1, rfl, _, rfl⟩ (by decide) (by decide) (v := .str (Str.ofString "\n") _) rfl ?_
      k_steps
      unfold Halt
      (with_reducible rename Fr _ _ _ _ => F₃)
      (with_reducible rename News _ _ _ _ => N₃)
      refine slice_strN_sn_len (s := ⟨_, _, _, _, _⟩) F₃ N₃ ?_ (hsz := ?_)
      rotate_left
      · show (ti ++ b).toArray.size ≤ sizeLine
        simp [sizeLine]; omega
      intro h₅ t₅ tk₅ F₅ N₅ hsl
      rw [show ((-1 : Int)) = -((1 : Nat) : Int) from rfl, slice_last _ _ (by decide)]
      clear F₃ N₃
      have hfl := drop_flag (ti ++ b)
      have hcr : ((⟨((ti ++ b).drop ((ti ++ b).length - 1)).toArray⟩ : Str) == Str.ofString "\r") = flag false (ti ++ b) := by
        rw [show Str.ofString "\r" = (⟨[13].toArray⟩ : Str) by decide +kernel, Bool.eq_iff_iff, beq_iff_eq, ← hfl]
        constructor
        · intro h; simpa using congrArg (fun x : Str => x.cps.toList) h
        · intro h; rw [h]
      have hend1 := end_one (ti ++ b) b gr.isNil
      k_steps
      · (with_reducible rename ((_ == Str.ofString "\r") = _) => hc)
        rw [hcr] at hc
        rw [if_pos hc] at hend1
        (
          (have hend := hend1)
          rw [hend] at hT' hlen
          unfold Halt
          rw [show Str.ofString "\r\n" = (⟨([13, 10] : List Nat).toArray⟩ : Str) by decide +kernel]
          refine add_lists (by simp only [List.length_append, List.length_cons, List.length_nil] at hlen ⊢; omega) fun t₉ tk₉ => ?_
          k_steps
          (with_reducible rename Fr _ _ _ _ => F₉)
          (with_reducible rename News _ _ _ _ => N₉)
          exact Turn.next (Keep.refl _) F₉ (newsTl N₉) hnw ⟨gr, _, t₉, if_pos rfl, look_ne (by decide +kernel) (look_ne (by decide +kernel) (look_ne (by decide +kernel) (look_ne (by decide +kernel) ml))), look_ne (by decide +kernel) (look_ne (by decide +kernel) (look_ne (by decide +kernel) (look_ne (by decide +kernel) mr))), rfl, hV, hT', hS, hde, hro'⟩)
      · (with_reducible rename ((_ == Str.ofString "\r") = _) => hc)
        rw [hcr] at hc
        rw [if_neg (by rw [hc]; decide)] at hend1
        (
          (have hend := hend1)
          rw [hend] at hT' hlen
          unfold Halt
          rw [show Str.ofString "\n" = (⟨([10] : List Nat).toArray⟩ : Str) by decide +kernel]
          refine add_lists (by simp only [List.length_append, List.length_cons, List.length_nil] at hlen ⊢; omega) fun t₉ tk₉ => ?_
          k_steps
          (with_reducible rename Fr _ _ _ _ => F₉)
          (with_reducible rename News _ _ _ _ => N₉)
          exact Turn.next (Keep.refl _) F₉ (newsTl N₉) hnw ⟨gr, _, t₉, if_pos rfl, look_ne (by decide +kernel) (look_ne (by decide +kernel) (look_ne (by decide +kernel) (look_ne (by decide +kernel) ml))), look_ne (by decide +kernel) (look_ne (by decide +kernel) (look_ne (by decide +kernel) (look_ne (by decide +kernel) mr))), rfl, hV, hT', hS, hde, hro'⟩)
    · refine item_tup ⟨_, (newsHd N₂).1, rfl, _, rfl⟩ (by decide) (by decide) (v := .str (Str.ofString "\r") _) rfl ?_
      k_steps
      (
        (have hend := (show endOf (ti ++ b) b 2 gr.isNil = [13] by simp [endOf]))
        rw [hend] at hT' hlen
        unfold Halt
        rw [show Str.ofString "\r" = (⟨([13] : List Nat).toArray⟩ : Str) by decide +kernel]
        refine add_lists (by simp only [List.length_append, List.length_cons, List.length_nil] at hlen ⊢; omega) fun t₉ tk₉ => ?_
        k_steps
        (with_reducible rename Fr _ _ _ _ => F₉)
        (with_reducible rename News _ _ _ _ => N₉)
        exact Turn.next (Keep.refl _) F₉ (newsTl N₉) hnw ⟨gr, _, t₉, if_pos rfl, look_ne (by decide +kernel) (look_ne (by decide +kernel) (look_ne (by decide +kernel) (look_ne (by decide +kernel) ml))), look_ne (by decide +kernel) (look_ne (by decide +kernel) (look_ne (by decide +kernel) (look_ne (by decide +kernel) mr))), rfl, hV, hT', hS, hde, hro'⟩)
    · refine item_tup ⟨_, (newsHd N₂).1, rfl, _, rfl⟩ (by decide) (by decide) (v := .str (Str.ofString "") _) rfl ?_
      k_steps
      unfold Halt
      (with_reducible rename Fr _ _ _ _ => F₃)
      refine item_tup ⟨_, F₃.keep _ _ (kg₀ _ _ ha), rfl, _, rfl⟩ (by omega) (by omega) (v := .str ⟨b.toArray⟩ t₂) rfl ?_
      have hbe : ((⟨b.toArray⟩ : Str) == Str.ofString "") = decide (b = []) := by
        rw [show Str.ofString "" = (⟨([] : List Nat).toArray⟩ : Str) by decide +kernel, Bool.eq_iff_iff, beq_iff_eq, decide_eq_true_iff]
        constructor
        · intro h; simpa using congrArg (fun x : Str => x.cps.toList) h
        · intro h; rw [h]
      have hnil := isNil_drop hV
      k_steps
      · (with_reducible rename ((_ == Str.ofString "") = _) => hc)
        rw [hbe, decide_eq_true_iff] at hc
        (
          (have hend := (end_three (tb := ti ++ b) (last := gr.isNil) (.inl hc)))
          rw [hend] at hT' hlen
          unfold Halt
          rw [show Str.ofString "\r\n" = (⟨([13, 10] : List Nat).toArray⟩ : Str) by decide +kernel]
          refine add_lists (by simp only [List.length_append, List.length_cons, List.length_nil] at hlen ⊢; omega) fun t₉ tk₉ => ?_
          k_steps
          (with_reducible rename Fr _ _ _ _ => F₉)
          (with_reducible rename News _ _ _ _ => N₉)
          exact Turn.next (Keep.refl _) F₉ (newsTl N₉) hnw ⟨gr, _, t₉, if_pos rfl, look_ne (by decide +kernel) (look_ne (by decide +kernel) (look_ne (by decide +kernel) (look_ne (by decide +kernel) ml))), look_ne (by decide +kernel) (look_ne (by decide +kernel) (look_ne (by decide +kernel) (look_ne (by decide +kernel) mr))), rfl, hV, hT', hS, hde, hro'⟩)
      · (with_reducible rename ((_ == Str.ofString "") = _) => hc)
        rw [hbe, decide_eq_false_iff_not] at hc
        unfold Halt
        (with_reducible rename Fr _ _ _ _ => F₄)
        refine len_lst (isList_of (F₄.keep _ _ (kg₀ _ _ hl))) (by omega) fun t₅ tk₅ => ?_
        k_steps
        · (with_reducible rename ((i : Int) < (its.size : Int) - 1) => hlt)
          (
            (have hend := (end_three (tb := ti ++ b) (b := b) (.inr (hnil.mpr (by omega)))))
            rw [hend] at hT' hlen
            unfold Halt
            rw [show Str.ofString "\r\n" = (⟨([13, 10] : List Nat).toArray⟩ : Str) by decide +kernel]
            refine add_lists (by simp only [List.length_append, List.length_cons, List.length_nil] at hlen ⊢; omega) fun t₉ tk₉ => ?_
            k_steps
            (with_reducible rename Fr _ _ _ _ => F₉)
            (with_reducible rename News _ _ _ _ => N₉)
            exact Turn.next (Keep.refl _) F₉ (newsTl N₉) hnw ⟨gr, _, t₉, if_pos rfl, look_ne (by decide +kernel) (look_ne (by decide +kernel) (look_ne (by decide +kernel) (look_ne (by decide +kernel) ml))), look_ne (by decide +kernel) (look_ne (by decide +kernel) (look_ne (by decide +kernel) (look_ne (by decide +kernel) mr))), rfl, hV, hT', hS, hde, hro'⟩)
        · (with_reducible rename (¬ (i : Int) < (its.size : Int) - 1) => hlt)
          (
            (have hend := (end_none (tb := ti ++ b) (b := b) (fun h => h.elim hc fun h => hlt (by have := hnil.mp h; omega))))
            rw [hend] at hT' hlen
            unfold Halt
            rw [show Str.ofString "" = (⟨([] : List Nat).toArray⟩ : Str) by decide +kernel]
            refine add_lists (by simp only [List.length_append, List.length_cons, List.length_nil] at hlen ⊢; omega) fun t₉ tk₉ => ?_
            k_steps
            (with_reducible rename Fr _ _ _ _ => F₉)
            (with_reducible rename News _ _ _ _ => N₉)
            exact Turn.next (Keep.refl _) F₉ (newsTl N₉) hnw ⟨gr, _, t₉, if_pos rfl, look_ne (by decide +kernel) (look_ne (by decide +kernel) (look_ne (by decide +kernel) (look_ne (by decide +kernel) ml))), look_ne (by decide +kernel) (look_ne (by decide +kernel) (look_ne (by decide +kernel) (look_ne (by decide +kernel) mr))), rfl, hV, hT', hS, hde, hro'⟩)
  | txt b gr =>
    obtain ⟨t₂, vs', e1, hV⟩ := hV
    injection e1 with e1 e2
    subst e1 e2
    obtain ⟨hb1, hb2, hS⟩ := hS
    have hlen := textG_ge gr (ti ++ b ++ [10])
    have hT' : textG gr (ti ++ b ++ [10]) = X := hT
    rw [hT'] at hlen
    simp only [List.length_append, List.length_singleton] at hlen
    k_steps
    unfold Halt
    refine IsiPair.str_list ?_
    k_steps
    unfold Halt
    refine IsiPair.str_str ?_
    k_steps
    unfold Halt
    refine add_lists (by simp only [List.length_append]; omega) fun t₄ tk₄ => ?_
    k_steps
    unfold Halt
    rw [show Str.ofString "\n" = (⟨[10].toArray⟩ : Str) by decide +kernel]
    refine add_lists (by simp only [List.length_append, List.length_singleton]; omega) fun t₅ tk₅ => ?_
    k_steps
    (with_reducible rename Fr _ _ _ _ => F₂)
    (with_reducible rename News _ _ _ _ => N₂)
    have hro' : gr.room ≤ 20000 := by simp only [Gen.room] at hro; omega
    exact Turn.next (Keep.refl _) F₂ N₂ hnw ⟨gr, _, t₅, if_pos rfl, look_ne (by decide +kernel) (look_ne (by decide +kernel) (look_ne (by decide +kernel) ml)), look_ne (by decide +kernel) (look_ne (by decide +kernel) (look_ne (by decide +kernel) mr)), rfl, hV, hT', hS, hde, hro'⟩
  | sub l gr =>
    obtain ⟨a, jts, jn, vs', e1, ha, hVl, hV⟩ := hV
    injection e1 with e1 e2
    subst e1 e2
    obtain ⟨hS1, hS⟩ := hS
    have hlen := textG_ge gr (ti ++ 62 :: nlOf ti.length ++ wireG l)
    have hT' : textG gr (ti ++ 62 :: nlOf ti.length ++ wireG l) = X := hT
    rw [hT'] at hlen
    simp only [List.length_append, List.length_cons] at hlen
    have ha' : h.get? a = some (listOf jts jn) := Fz.keep _ _ (kg₀ _ _ ha)
    k_steps
    unfold Halt
    refine IsiPair.list_list ha' rfl ?_
    k_steps
    unfold Halt
    rw [show Str.ofString ">" = (⟨[62].toArray⟩ : Str) by decide +kernel]
    refine add_lists (by simp only [List.length_append, List.length_singleton]; omega) fun t₄ tk₄ => ?_
    k_steps
    unfold Halt
    refine len_txt (by omega) fun t₅ tk₅ => ?_
    k_steps
    unfold Halt
    (with_reducible rename News _ _ _ _ => N₂)
    refine pick3 (newsHd N₂).1 fun t₆ => ?_
    have h7 := (nlOf_le ti.length).1
    refine add_lists (by simp only [List.length_append, List.length_singleton]; omega) fun t₇ tk₇ => ?_
    k_steps
    unfold Halt
    (with_reducible rename Fr _ _ _ _ => F₂)
    (with_reducible rename News _ _ _ _ => N₂)
    refine ih l.dep ?_ (B₀.keeps (kg₀.trans F₂.keep)) hh l (Nat.le_refl _) ?_ a jts jn ?_ ?_ hS1 ?_ _ _ ?_
    · simp only [Gen.dep] at hde; omega
    · simp only [Gen.dep] at hde; omega
    · exact F₂.keep _ _ (kg₀ _ _ ha)
    · exact hVl.mono fun _ _ e => F₂.keep _ _ (kg₀ _ _ e)
    · simp only [Gen.room] at hro; omega
    intro h₈ tk₈ t₈ kp₈
    have F₈ := F₂.keptAll kp₈
    have N₈ := (newsTl N₂).grown kp₈
    clear F₂ N₂
    k_steps
    unfold Halt
    refine add_lists (by simp only [List.length_append, List.length_singleton]; omega) fun t₉ tk₉ => ?_
    k_steps
    (with_reducible rename Fr _ _ _ _ => F₂)
    (with_reducible rename News _ _ _ _ => N₂)
    have hro' : gr.room ≤ 20000 := by simp only [Gen.room] at hro; omega
    have hde' : gr.dep ≤ n := by simp only [Gen.dep] at hde; omega
    refine Turn.next (Keep.refl _) F₂ N₂ hnw ⟨gr, _, t₉, if_pos rfl, look_ne (by decide +kernel) (look_ne (by decide +kernel) (look_ne (by decide +kernel) ml)), look_ne (by decide +kernel) (look_ne (by decide +kernel) (look_ne (by decide +kernel) mr)), rfl, hV, ?_, hS, hde', hro'⟩
    rw [show ti ++ [62] ++ nlOf ti.length ++ wireG l = ti ++ 62 :: nlOf ti.length ++ wireG l by simp]
    exact hT'

theorem cnt_le : ∀ (g : Gen), g.cnt ≤ g.room
  | .nil => Nat.le_refl _
  | .tup _ _ r => by have := cnt_le r; simp only [Gen.cnt, Gen.room]; omega
  | .txt _ r => by have := cnt_le r; simp only [Gen.cnt, Gen.room]; omega
  | .sub l r => by have := cnt_le r; have := cnt_le l; simp only [Gen.cnt, Gen.room]; omega
theorem vals_nil {S : Addr → Obj → Prop} {g : Gen} {its : Array Value} (h : Vals S g (its.toList.drop its.size)) : g = .nil := by
  have e : its.toList.drop its.size = [] := by rw [List.drop_eq_nil_iff]; simp
  rw [e] at h
  cases g with
  | nil => rfl
  | tup b e r => obtain ⟨_, _, _, _, h, _⟩ := h; cases h
  | txt b r => obtain ⟨_, _, h, _⟩ := h; cases h
  | sub l r => obtain ⟨_, _, _, _, h, _⟩ := h; cases h

theorem finish_end (x : List Nat) : finish x = if (dotL (fixL x)).drop ((dotL (fixL x)).length - 2) = [13, 10] then dotL (fixL x) ++ [46, 13, 10] else dotL (fixL x) ++ [13, 10] ++ [46, 13, 10] := by
  unfold finish
  simp only
  split <;> rfl
theorem slice_crlf {y : List Nat} : (Txt.slice ⟨y.toArray⟩ (some (-2)) none != Str.ofString "\r\n") = !decide (y.drop (y.length - 2) = [13, 10]) := by
  rw [show ((-2 : Int)) = -((2 : Nat) : Int) from rfl, slice_last _ _ (by decide), show Str.ofString "\r\n" = (⟨[13, 10].toArray⟩ : Str) by decide +kernel]
  unfold bne
  congr 1
  rw [Bool.eq_iff_iff, beq_iff_eq, decide_eq_true_iff]
  constructor
  · intro h; simpa using congrArg (fun x : Str => x.cps.toList) h
  · intro h; rw [h]
theorem wire_step (n : Nat) (ih : ∀ m, m < n → WireOK w m) : WireOK w n := by
  intro A E s Q B hh g hg hr lt its nn hl hV hS hro r u hq
  have hF : FnAt (hd.heap_39 w.params) 79 _ _ := ⟨_, _, _, _, by k_is, rfl, rfl⟩
  have hits : its.size ≤ 20000 := by
    have h1 := hV.length
    have h2 := cnt_le g
    simp at h1
    omega
  have hX := textG_le g [] hS
  have hX2 := textG_mem g [] hS (fun _ h => nomatch h)
  simp only [List.length_nil, Nat.zero_add] at hX
  obtain ⟨X, p, loose, mean, mg, mb, T⟩ := id B
  refine' enterK [(Str.ofString "letter", .ref lt), (Str.ofString "route", .int r u)] (by omega) X ?k6 ?k7 T.nolimit ?k9 ?kB ?_ ?c2 ?c3 ?c4 ?c5
  walk_at "mine enter"
  intro h₁ kp F N X'
  k_steps
  unfold Halt
  (with_reducible rename Fr _ _ _ _ => F₂)
  (with_reducible rename News _ _ _ _ => N₂)
  refine for_enum hh rfl rfl rfl (WireJ n s.heap (textG g []) lt r u its) ?_
  k_steps
  unfold Halt
  refine call_enumerate_list (isList_of (F₂.keep _ _ hl)) ?_
  intro h₃ he hit hsz kp₃
  have hLs := F₂.ns.lt
  have F₃ := F₂.keptAll kp₃
  have N₃ := N₂.grown kp₃
  refine ⟨_, _, lt, its, s.heap, _, _, rfl, he, hit, Nat.succ_ne_self _, isList_of hl, ?_, ?_, ?_, ?_, ?_, F₃, N₃, ⟨g, [], _, if_pos rfl, ?j1, ?j2, rfl, hV, rfl, hS, hg, hro⟩, ?_, ?_⟩
  · exact Heap.get?_none_of_le (Nat.le_trans F₂.above (Nat.le_of_lt (Nat.lt_succ_of_lt hLs)))
  · exact Heap.get?_none_of_le (Nat.le_trans F₂.above (Nat.le_of_lt hLs))
  · exact (Nat.ne_of_lt (Nat.lt_succ_of_lt hLs)).symm
  · exact (Nat.ne_of_lt hLs).symm
  · intro q hq
    have := Heap.lt_size (N₂ q hq).1
    exact ⟨Nat.ne_of_lt (Nat.lt_succ_of_lt this), Nat.ne_of_lt this⟩
  case j1 => walk_at "mine look"
  case j2 => walk_at "mine look"
  · clear F₂ N₂ F₃ N₃
    intro i t v g₁ m₁ news₁ h₄ k₄ own wr hv hJ kg hnw hown hsub F₄ N₄
    refine turnWire hF n ih ?_ ?_ B kg (Nat.le_trans hX hro) hl (by omega) hv hJ hnw F₄ N₄ _
    · exact hh
    · show A.depth + 1 + n + 2 < _
      omega
  · clear F₂ N₂ F₃ N₃
    rintro g' h₄ tk m' news' kg F₄ N₄ ⟨gi, ti, tt, mx, ml, mr, rfl, hVi, hT, -, -, -⟩
    have hgi := vals_nil hVi
    subst hgi
    have hti : ti = textG g [] := hT
    subst hti
    have X₁ := X.keeps kg
    have T₁ := T.keeps kg
    have hD : (dotL (fixL (textG g []))).length ≤ 90000 := by
      have h1 := fix_len false (textG g [])
      have h2 := dot_len true (fixS false (textG g []))
      unfold dotL fixL
      omega
    k_steps
    · unfold Halt
      (with_reducible rename Fr _ _ _ _ => F₂)
      (with_reducible rename News _ _ _ _ => N₂)
      refine quote_spec (B.keeps (kg.trans F₂.keep)) (by show A.depth + 1 < _; omega) _ _ (by simp; omega) ?_
      intro h₅ tk₅ t₅ kp₅
      have F₅ := F₂.keptAll kp₅
      have N₅ := N₂.grown kp₅
      clear F₂ N₂
      (
        (have hfin := finish_end (textG g []))
        (have hcl : Str.ofString "\r\n" = (⟨[13, 10].toArray⟩ : Str) := by decide +kernel)
        (have hcd : Str.ofString ".\r\n" = (⟨[46, 13, 10].toArray⟩ : Str) := by decide +kernel)
        k_steps
        · (with_reducible rename ((_ != Str.ofString "\r\n") = _) => hc)
          rw [slice_crlf] at hc
          rw [if_neg (by simpa using hc)] at hfin
          unfold Halt
          rw [hcl]
          refine add_lists (by simp only [List.length_append, List.length_cons, List.length_nil]; omega) fun t₆ tk₆ => ?_
          k_steps
          unfold Halt
          rw [hcd]
          refine add_lists (by simp only [List.length_append, List.length_cons, List.length_nil]; omega) fun t₇ tk₇ => ?_
          (with_reducible rename Fr _ _ _ _ => F₇)
          rw [show wireG g = _ from hfin] at hq
          exact hq _ _ _ (kg.trans F₇.keep)
        · (with_reducible rename ((_ != Str.ofString "\r\n") = _) => hc)
          rw [slice_crlf] at hc
          rw [if_pos (by simpa using hc)] at hfin
          unfold Halt
          rw [hcd]
          refine add_lists (by simp only [List.length_append, List.length_cons, List.length_nil]; omega) fun t₇ tk₇ => ?_
          (with_reducible rename Fr _ _ _ _ => F₇)
          rw [show wireG g = _ from hfin] at hq
          exact hq _ _ _ (kg.trans F₇.keep))
    · unfold Halt
      (with_reducible rename Fr _ _ _ _ => F₂)
      (with_reducible rename News _ _ _ _ => N₂)
      have hDm : ∀ c ∈ dotL (fixL (textG g [])), c < 256 := by
        intro c hc
        rcases dot_mem hc with hc | rfl
        · rcases fix_mem hc with hc | rfl | rfl
          · exact hX2 c hc
          · omega
          · omega
        · omega
      have hFm : ∀ c ∈ fixL (textG g []), c < 256 := by
        intro c hc
        rcases fix_mem hc with hc | rfl | rfl
        · exact hX2 c hc
        · omega
        · omega
      have hFl : (fixL (textG g [])).length ≤ 40000 := by
        have h1 := fix_len false (textG g [])
        unfold fixL
        omega
      refine comp_ord (K := hd.heap_39 w.params) (p := p) (loose := loose) (mg := mg) (mb := mb) hh (by decide +kernel) (by decide +kernel) rfl (by decide +kernel) (by rfl) (by rfl) (by decide +kernel) (by k_is) ?_
      k_steps
      unfold Halt
      refine fix_spec (B.keeps (kg.trans F₂.keep)) (by show A.depth + 1 < _; omega) _ _ (by simp; omega) ?_
      intro h₅ tk₅ t₅ kp₅
      have F₅ := F₂.keptAll kp₅
      have N₅ := N₂.grown kp₅
      clear F₂ N₂
      refine ⟨_, _, rfl, by simp [sizeLine]; omega, X₁.keeps F₅.keep, (topRead_of T₁).keeps F₅.keep, ?_⟩
      intro D h₆ k₆ vs kp₆ hl₆ hi₆
      have F₆ := F₅.keptAll kp₆
      have N₆ := N₅.grown kp₆
      clear F₅ N₅
      k_steps
      unfold Halt
      refine call_bytes_ints hl₆ hi₆ ?_ ?_ hh ?_
      · intro n hn
        obtain ⟨c, hc, rfl⟩ := List.mem_map.mp hn
        have := hFm c hc
        show (0 : Int) ≤ (c : Int) ∧ (c : Int) < 256
        omega
      · have := hi₆.length
        simp at this
        simp [sizeLine, this]
        omega
      intro h₇ t₇ k₇ kp₇
      have F₇ := F₆.keptAll kp₇
      have N₇ := N₆.grown kp₇
      clear F₆ N₆
      k_steps
      unfold Halt
      have e1 : (byteArr ((⟨(fixL (textG g [])).toArray⟩ : Str).cps.toList.map Int.ofNat)).toList.map (·.toNat) = fixL (textG g []) := by
        rw [show ((⟨(fixL (textG g [])).toArray⟩ : Str).cps.toList) = fixL (textG g []) by simp, byteArr_by8]
        exact nat8 hFm
      refine period_spec (B.keeps (kg.trans F₇.keep)) (by show A.depth + 1 < _; omega) _ _ ?_ ?_
      · rw [byteArr_size, List.length_map, Array.length_toList]; simp; omega
      intro h₈ k₈ t₈ kp₈
      have F₈ := F₇.keptAll kp₈
      have N₈ := N₇.grown kp₈
      clear F₇ N₇
      rw [e1]
      k_steps
      unfold Halt
      (with_reducible rename Fr _ _ _ _ => F₉)
      (with_reducible rename News _ _ _ _ => N₉)
      refine comp_chr (K := hd.heap_39 w.params) (p := p) (loose := loose) (mg := mg) (mb := mb) hh (by decide +kernel) (by decide +kernel) rfl (by decide +kernel) (by rfl) (by rfl) (by decide +kernel) (by k_is) ?_
      k_steps
      unfold Halt
      refine ⟨_, _, rfl, by simp [by8, sizeLine]; omega, X₁.keeps F₉.keep, (topRead_of T₁).keeps F₉.keep, ?_⟩
      intro D₂ h₁₀ k₁₀ l kp₁₀ hl₂ hm
      have F₁₀ := F₉.keptAll kp₁₀
      have N₁₀ := N₉.grown kp₁₀
      clear F₉ N₉
      k_steps
      unfold Halt
      rw [show Str.ofString "" = ⟨#[]⟩ from by decide +kernel]
      rw [nat8 (l := dotL (fixL (textG g []))) hDm] at hm
      refine join_signs hl₂ hm (by omega) fun t' k' => ?_
      (
        (have hfin := finish_end (textG g []))
        (have hcl : Str.ofString "\r\n" = (⟨[13, 10].toArray⟩ : Str) := by decide +kernel)
        (have hcd : Str.ofString ".\r\n" = (⟨[46, 13, 10].toArray⟩ : Str) := by decide +kernel)
        k_steps
        · (with_reducible rename ((_ != Str.ofString "\r\n") = _) => hc)
          rw [slice_crlf] at hc
          rw [if_neg (by simpa using hc)] at hfin
          unfold Halt
          rw [hcl]
          refine add_lists (by simp only [List.length_append, List.length_cons, List.length_nil]; omega) fun t₆ tk₆ => ?_
          k_steps
          unfold Halt
          rw [hcd]
          refine add_lists (by simp only [List.length_append, List.length_cons, List.length_nil]; omega) fun t₇ tk₇ => ?_
          (with_reducible rename Fr _ _ _ _ => F₇)
          rw [show wireG g = _ from hfin] at hq
          exact hq _ _ _ (kg.trans F₇.keep)
        · (with_reducible rename ((_ != Str.ofString "\r\n") = _) => hc)
          rw [slice_crlf] at hc
          rw [if_pos (by simpa using hc)] at hfin
          unfold Halt
          rw [hcd]
          refine add_lists (by simp only [List.length_append, List.length_cons, List.length_nil]; omega) fun t₇ tk₇ => ?_
          (with_reducible rename Fr _ _ _ _ => F₇)
          rw [show wireG g = _ from hfin] at hq
          exact hq _ _ _ (kg.trans F₇.keep))

theorem wire_spec (w : World) (n : Nat) : WireOK w n := by
  induction n using Nat.strongRecOn with
  | ind n ih => exact wire_step n fun m hm => ih m hm

def In (fz : List (Addr × Obj)) (a : Addr) (o : Obj) : Prop := (a, o) ∈ fz
theorem Vals_app {S : Addr → Obj → Prop} : ∀ {t u : Told} {vs ws : List Value}, Vals S (ofT t) vs → Vals S (ofT u) ws → Vals S (ofT (t.app u)) (vs ++ ws)
  | .nil, _, _, _, h, k => by rw [show _ = [] from h]; exact k
  | .txt b r, _, _, _, ⟨t, vs', e, h⟩, k => ⟨t, _, by rw [e]; rfl, Vals_app h k⟩
  | .sub l r, _, _, _, ⟨a, its, n, vs', e, h1, h2, h⟩, k => ⟨a, its, n, _, by rw [e]; rfl, h1, h2, Vals_app h k⟩
theorem Vals_appD {S : Addr → Obj → Prop} : ∀ {t u : Draw} {vs ws : List Value}, Vals S (ofD t) vs → Vals S (ofD u) ws → Vals S (ofD (t.app u)) (vs ++ ws)
  | .nil, _, _, _, h, k => by rw [show _ = [] from h]; exact k
  | .tup b e' r, _, _, _, ⟨a, t, u, vs', e, h1, h⟩, k => ⟨a, t, u, _, by rw [e]; rfl, h1, Vals_appD h k⟩
  | .sub l r, _, _, _, ⟨a, its, n, vs', e, h1, h2, h⟩, k => ⟨a, its, n, _, by rw [e]; rfl, h1, h2, Vals_appD h k⟩
theorem In.left {f₁ f₂ : List (Addr × Obj)} : ∀ a o, In f₁ a o → In (f₁ ++ f₂) a o := fun _ _ h => List.mem_append_left _ h
theorem In.right {f₁ f₂ : List (Addr × Obj)} : ∀ a o, In f₂ a o → In (f₁ ++ f₂) a o := fun _ _ h => List.mem_append_right _ h
/-- fresh objects that stand -/
def New (h h' : Heap) (fz : List (Addr × Obj)) : Prop := ∀ p ∈ fz, h'.get? p.1 = some p.2 ∧ h.get? p.1 = none
theorem none_of {h h' : Heap} (k : Keep h h') {a : Addr} (e : h'.get? a = none) : h.get? a = none := by
  cases hh : h.get? a with
  | none => rfl
  | some o => rw [k _ _ hh] at e; cases e
theorem new_of {h g h' : Heap} {L : Addr} {fz : List (Addr × Obj)} (k : Keep h g) (N : News g L h' fz) : New h h' fz := fun p hp => ⟨(N p hp).1, none_of k (N p hp).2.2⟩
theorem vals_nilT {S : Addr → Obj → Prop} {t : Told} {vs : List Value} (h : Vals S (ofT t) vs) (e : vs = []) : t = .nil := by
  subst e
  cases t with
  | nil => rfl
  | txt b r => obtain ⟨_, _, h, _⟩ := h; cases h
  | sub l r => obtain ⟨_, _, _, _, h, _⟩ := h; cases h
def ToldJ (n : Nat) (d : Draw) (g₀ : Heap) (its : Array Value) (i : Nat) (_ : Heap) (m : Str → Option Value) (mu : List (Addr × Obj)) : Prop :=
  ∃ ta vs c fz tp dr, m (Str.ofString "told") = some (.ref ta) ∧ mu = (ta, listOf vs c) :: fz ∧ Vals (In fz) (ofT tp) vs.toList ∧ Vals (At g₀) (ofD dr) (its.toList.drop i) ∧ tp.app (tl dr) = tl d ∧ (ofD dr).dep ≤ n ∧ (∀ p ∈ fz, p.1 ≠ ta) ∧ vs.size = i ∧ (ofD dr).cnt ≤ 1000
def ToldOK (w : World) (n : Nat) : Prop := ∀ {A : Around} {E : Value → Shared → Prop} {s : Shared} {Q : Value → Shared → Prop} (_ : Base w s.heap) (_ : A.handled = none) (d : Draw) (_ : (ofD d).dep ≤ n) (_ : A.depth + n + 1 < recursionLimit) (lt : Addr) (its : Array Value) (nn : Nat) (_ : s.heap.get? lt = some (listOf its nn)) (_ : Vals (At s.heap) (ofD d) its.toList)
    (_ : (ofD d).cnt ≤ 1000)
    (_ : ∀ h' tk fz ra vs c, Keep s.heap h' → New s.heap h' fz → In fz ra (listOf vs c) → Vals (In fz) (ofT (told d)) vs.toList → Q (.ref ra) { s with heap := h', toks := tk }),
    wpAny (model PySem.Challenge.rw_sn0117_01.row.prog w) A (call (.ref 93) [.ref lt]) Q E s

theorem turnTold {body : List Stmt} {scope : Scope} (hF : FnAt (hd.heap_39 w.params) 93 body scope) (n : Nat) (ih : ∀ m, m < n → ToldOK w m) (hh : A.handled = none) (hr : A.depth + n < recursionLimit) {L fa : Addr} {ccd : Value} {g₀ g h : Heap} {m : Str → Option Value} {mu own : List (Addr × Obj)} {wr : List Addr} {s₁ : Shared}
    {Q : Flow → Shared → Prop} (B₀ : Base w g₀) (kg₀ : Keep g₀ g) {d : Draw} {its : Array Value} {i : Nat} {v : Value} (hits : its.size ≤ 1000) (hv : its[i]? = some v)
    (hJ : ToldJ n d g₀ its i g m mu) (hnw : ∀ p ∈ mu, p.1 ∉ wr) (hown : ∀ q ∈ wr, ∃ o, (q, o) ∈ own) (hsub : ∀ p ∈ own, p.1 ∈ wr)
    (Fz : Fr g L h (fun z => if z = Str.ofString "item" then some v else m z)) (N : News g L h (mu ++ own)) (tks : Nat) :
    wpAny (model PySem.Challenge.rw_sn0117_01.row.prog w) A (execs (forBody (nth body 1)) (envOf (Str.ofString "_law_told") scope L fa ccd)) (Turn L own wr (ToldJ n d g₀ its (i + 1)) { s₁ with heap := h, toks := tks } Q g) (fun _ _ => False) { s₁ with heap := h, toks := tks } := by
  have hF' : FnAt (hd.heap_39 w.params) 93 _ _ := ⟨_, _, _, _, by k_is, rfl, rfl⟩
  obtain ⟨rfl, rfl⟩ := FnAt.inj hF hF'
  clear hF hF'
  dsimp only [nth, forBody]
  obtain ⟨ta, vs, c, fz, tp, dr, mx, rfl, hV, hVd, hT, hde, hne, hvs, hcn⟩ := hJ
  obtain ⟨X', p, loose, mean, mg, mb, T⟩ := id (B₀.keeps kg₀)
  rw [drop_item hv] at hVd
  simp only [List.cons_append] at N
  have hne' : ∀ p ∈ fz ++ own, p.1 ≠ ta := fun p hp => (List.mem_append.mp hp).elim (hne p) fun hp e => hnw (ta, listOf vs c) (List.mem_cons_self ..) (show ta ∈ wr from e ▸ hsub p hp)
  have hi : i < its.size := (Array.getElem?_eq_some_iff.mp hv).1
  have hta : h.get? ta = some (listOf vs c) := (newsHd N).1
  have hoh : ∀ p ∈ own, h.get? p.1 = some p.2 := fun p hp => (N p (List.mem_cons_of_mem _ (List.mem_append_right _ hp))).1
  cases dr with
  | nil => cases hVd
  | tup b e dr =>
    obtain ⟨a, t₂, t₃, vs', e1, ⟨he, ha⟩, hVd⟩ := hVd
    injection e1 with e1 e2
    subst e1 e2
    have ha' : h.get? a = some (pairO b e t₂ t₃) := Fz.keep _ _ (kg₀ _ _ ha)
    k_steps
    unfold Halt
    refine IsiPair.tuple_list ha' rfl ?_
    k_steps
    unfold Halt
    refine method_append hta ?_
    k_steps
    unfold Halt
    refine item_tup ⟨_, ha', rfl, _, rfl⟩ (by omega) (by omega) (v := .str ⟨b.toArray⟩ t₂) rfl ?_
    k_steps
    unfold Halt
    refine append_hd Fz N hne' (by simp [sizeLine]; omega) ?_
    intro h₅ F₅ N₅
    clear N hta
    k_steps
    refine Turn.next (Keep.refl _) F₅ N₅ (fun p hp => ?_) ⟨ta, _, _, fz, tp.app (.txt b .nil), dr, look_ne (by decide +kernel) mx, rfl, ?_, hVd, ?_, hde, hne, ?_, by simp only [ofD, Gen.cnt] at hcn; omega⟩
    · rcases List.mem_cons.mp hp with rfl | hp
      · exact (hnw (ta, listOf vs c) (List.mem_cons_self ..) : ta ∉ wr)
      · exact hnw p (List.mem_cons_of_mem _ hp)
    · rw [Array.toList_push]; exact Vals_app hV ⟨t₂, [], rfl, rfl⟩
    · rw [Told.app_assoc]; exact hT
    · rw [Array.size_push, hvs]
  | sub l dr =>
    obtain ⟨a, jts, jn, vs', e1, ha, hVl, hVd⟩ := hVd
    injection e1 with e1 e2
    subst e1 e2
    have ha' : h.get? a = some (listOf jts jn) := Fz.keep _ _ (kg₀ _ _ ha)
    k_steps
    unfold Halt
    refine IsiPair.list_list ha' rfl ?_
    k_steps
    unfold Halt
    refine method_append hta ?_
    k_steps
    unfold Halt
    refine ih (ofD l).dep ?_ (B₀.keeps (kg₀.trans Fz.keep)) hh l (Nat.le_refl _) ?_ a jts jn ha' ?_ ?_ ?_
    · simp only [ofD, Gen.dep] at hde; omega
    · simp only [ofD, Gen.dep] at hde; omega
    · exact hVl.mono fun _ _ e => Fz.keep _ _ (kg₀ _ _ e)
    · simp only [ofD, Gen.cnt] at hcn; omega
    intro h₅ tk₅ fz₅ ra₅ vs₅ c₅ kp₅ hnew hra hV₅
    have F₅ := Fz.keptAll kp₅
    have Nz : News g L h₅ fz₅ := fun p hp => fresh_news Fz (hnew p hp).1 (hnew p hp).2
    have N₅ := newsCon (newsHd (N.grown kp₅)) (Nz.append (newsTl (N.grown kp₅)))
    clear Fz N Nz
    k_steps
    unfold Halt
    refine append_hd F₅ N₅ (fun p hp => (List.mem_append.mp hp).elim (fun hp e => ?_) (hne' p)) (by simp [sizeLine]; omega) ?_
    · have h1 := (hnew p hp).2
      rw [e] at h1
      rw [show h.get? ta = none from h1] at hta
      cases hta
    intro h₆ F₆ N₆
    clear N₅
    k_steps
    refine Turn.next (Keep.refl _) F₆ (news' := (ta, _) :: (fz₅ ++ fz)) (fun p hp => N₆ p (by simpa using hp)) (fun p hp => ?_) ⟨ta, _, _, _, tp.app (.sub (told l) .nil), dr, look_ne (by decide +kernel) mx, rfl, ?_, hVd, ?_, ?_, ?_, ?_, by simp only [ofD, Gen.cnt] at hcn; omega⟩
    · rcases List.mem_cons.mp hp with rfl | hp
      · exact (hnw (ta, listOf vs c) (List.mem_cons_self ..) : ta ∉ wr)
      · rcases List.mem_append.mp hp with hp | hp
        · intro hw
          obtain ⟨o, ho⟩ := hown _ hw
          have h1 := (hnew p hp).2
          have h2 := hoh _ ho
          rw [show h.get? p.1 = none from h1] at h2
          cases h2
        · exact hnw p (List.mem_cons_of_mem _ hp)
    · rw [Array.toList_push]
      exact Vals_app (hV.mono In.right) ⟨ra₅, vs₅, c₅, [], rfl, In.left _ _ hra, hV₅.mono In.left, rfl⟩
    · rw [Told.app_assoc]; exact hT
    · simp only [ofD, Gen.dep] at hde; omega
    · intro p hp
      rcases List.mem_append.mp hp with hp | hp
      · intro e
        have h1 := (hnew p hp).2
        rw [e] at h1
        rw [show h.get? ta = none from h1] at hta
        cases hta
      · exact hne p hp
    · rw [Array.size_push, hvs]

theorem told_step (n : Nat) (ih : ∀ m, m < n → ToldOK w m) : ToldOK w n := by
  intro A E s Q B hh d hd' hr lt its nn hl hV hcn hq
  have hF : FnAt (hd.heap_39 w.params) 93 _ _ := ⟨_, _, _, _, by k_is, rfl, rfl⟩
  have hits : its.size ≤ 1000 := by
    have h1 := hV.length
    simp at h1
    omega
  obtain ⟨X, p, loose, mean, mg, mb, T⟩ := id B
  refine' enterK [(Str.ofString "letter", .ref lt)] (by omega) X ?k6 ?k7 T.nolimit ?k9 ?kB ?_ ?c2 ?c3 ?c4 ?c5
  walk_at "mine enter"
  intro h₁ kp F N X'
  k_steps
  unfold Halt
  (with_reducible rename Fr _ _ _ _ => F₂)
  (with_reducible rename News _ _ _ _ => N₂)
  refine for_list hh rfl rfl (ToldJ n d s.heap its) ?_
  k_steps
  unfold Halt
  refine ⟨lt, its, s.heap, _, _, rfl, isList_of hl, F₂, N₂, ⟨_, #[], 0, [], .nil, d, if_pos rfl, rfl, rfl, hV, rfl, hd', (fun _ h => nomatch h), rfl, hcn⟩, ?_, ?_⟩
  · clear F₂ N₂
    intro i v g₁ m₁ news₁ h₄ k₄ own wr hv hJ kg hnw hown hsub F₄ N₄
    refine turnTold hF n ih ?_ ?_ B kg hits hv hJ hnw hown hsub F₄ N₄ _
    · exact hh
    · show A.depth + 1 + n < _
      omega
  · clear F₂ N₂
    rintro g' h₄ tk m' news' kg F₄ N₄ ⟨ta, vs, c, fz, tp, dr, mx, rfl, hV', hVd, hT, -, hne, hvs, -⟩
    have hta : h₄.get? ta = some (listOf vs c) := (newsHd N₄).1
    have hgi := vals_nil hVd
    have hdr : dr = .nil := by cases dr <;> first | rfl | cases hgi
    subst hdr
    have hT' : tp = tl d := by rw [← Told.app_nil tp]; exact hT
    subst hT'
    have X₁ := X.keeps kg
    have T₁ := T.keeps kg
    k_steps
    unfold Halt
    refine wpAny_truthy_list (isList_of hta) (by omega) ?_
    k_steps
    · (with_reducible rename (Array.isEmpty _ = true) => he)
      have hvs0 : vs = #[] := by simpa using he
      subst hvs0
      have htl := vals_nilT hV' rfl
      unfold Halt
      refine method_append hta ?_
      k_steps
      unfold Halt
      refine append_hd F₄ N₄ hne (by simp [sizeLine]) ?_
      intro h₅ F₅ N₅
      k_steps
      refine hq _ _ _ ta _ _ (kg.trans F₅.keep) (new_of kg N₅) (List.mem_cons_self ..) ?_
      unfold told
      rw [htl]
      exact ⟨_, [], rfl, rfl⟩
    · (with_reducible rename (Array.isEmpty _ = false) => he)
      have hto : told d = tl d := by
        unfold told
        cases htl : tl d with
        | nil =>
          rw [htl] at hV'
          have h0 : vs.toList = [] := hV'
          have h1 : vs = #[] := by simpa using h0
          rw [h1] at he
          cases he
        | txt b r => rfl
        | sub l r => rfl
      refine hq _ _ _ ta _ _ (kg.trans F₄.keep) (new_of kg N₄) (List.mem_cons_self ..) ?_
      rw [hto]
      exact hV'.mono fun _ _ h => List.mem_cons_of_mem _ h
theorem told_spec (w : World) (n : Nat) : ToldOK w n := by
  induction n using Nat.strongRecOn with
  | ind n ih => exact told_step n fun m hm => ih m hm

def whileBody : Stmt → List Stmt
  | .While _ b _ _ => b
  | _ => []
def whileTest : Stmt → Expr
  | .While t _ _ _ => t
  | _ => .Constant .none 0 default
theorem slice_one (y : List Nat) : Txt.slice ⟨y.toArray⟩ none (some 1) = ⟨(y.take 1).toArray⟩ := by
  cases y with
  | nil => decide +kernel
  | cons c r =>
    rw [beq_iff_eq.mp (slice_closes_to (x := ⟨(c :: r).toArray⟩) (j := 1) ⟨by omega, by simp; omega⟩)]
    simp
/-- the values are the rows -/
def RowsV : List (List Nat) → List Value → Prop
  | [], vs => vs = []
  | r :: rs, vs => ∃ t vs', vs = .str ⟨r.toArray⟩ t :: vs' ∧ RowsV rs vs'
theorem RowsV.app : ∀ {a b : List (List Nat)} {vs ws : List Value}, RowsV a vs → RowsV b ws → RowsV (a ++ b) (vs ++ ws)
  | [], _, _, _, h, k => by rw [show _ = [] from h]; exact k
  | r :: a, _, _, _, ⟨t, vs', e, h⟩, k => ⟨t, _, by rw [e]; rfl, h.app k⟩
theorem RowsV.len : ∀ {a : List (List Nat)} {vs : List Value}, RowsV a vs → vs.length = a.length
  | [], _, h => by rw [show _ = [] from h]; rfl
  | r :: a, _, ⟨t, vs', e, h⟩ => by rw [e, List.length_cons, List.length_cons, h.len]
theorem RowsV.get : ∀ {a : List (List Nat)} {vs : List Value} {k : Nat} {r : List Nat}, RowsV a vs → a[k]? = some r → ∃ t, vs[k]? = some (.str ⟨r.toArray⟩ t)
  | [], _, _, _, _, h => by simp at h
  | r :: a, _, 0, r', ⟨t, vs', e, h⟩, h' => ⟨t, by simp at h'; rw [e, h']; rfl⟩
  | r :: a, _, k + 1, r', ⟨t, vs', e, h⟩, h' => by
    obtain ⟨t', h2⟩ := h.get (k := k) (r := r') (by simpa using h')
    exact ⟨t', by rw [e]; simpa using h2⟩
def OpenOK (w : World) (n : Nat) : Prop := ∀ {A : Around} {E : Value → Shared → Prop} {s : Shared} {Q : Value → Shared → Prop} (_ : Base w s.heap) (_ : A.handled = none) (t : Told) (_ : t.Ok) (_ : (ofT t).dep ≤ n) (_ : A.depth + n + 1 < recursionLimit) (la : Addr) (its : Array Value) (nn : Nat) (_ : s.heap.get? la = some (listOf its nn)) (all rest : List (List Nat)) (_ : RowsV all its.toList) (p : Nat) (tp : Tok)
    (_ : all.drop p = closed (bare t) ++ rest) (_ : all.length ≤ 10000) (_ : ∀ r ∈ all, r.length ≤ 1000)
    (_ : ∀ h' tk fz ra vs c tu t₁, Keep s.heap h' → New s.heap h' fz → In fz ra (listOf vs c) → Vals (In fz) (ofT t) vs.toList → h'.get? tu = some { cls := .type "tuple", data := .seq #[.ref ra, .int ((p + (bare t).length + 1 : Nat) : Int) t₁] } → s.heap.get? tu = none → Q (.ref tu) { s with heap := h', toks := tk }),
    wpAny (model PySem.Challenge.rw_sn0117_01.row.prog w) A (call (.ref 86) [.ref la, .int (p : Int) tp]) Q E s

def OpenJ (la : Addr) (p : Nat) (rs : List (List Nat)) (i : Nat) (_ : Heap) (m : Str → Option Value) (mu : List (Addr × Obj)) : Prop :=
  ∃ ba vs c t, m (Str.ofString "rows") = some (.ref la) ∧ m (Str.ofString "place") = some (.int ((p + i : Nat) : Int) t) ∧ m (Str.ofString "bare") = some (.ref ba) ∧ mu = [(ba, listOf vs c)] ∧ RowsV (rs.take i) vs.toList ∧ i ≤ rs.length

theorem row_at {all rest rs : List (List Nat)} {pl i : Nat} {b : List Nat} (h : all.drop pl = closed rs ++ rest) (hb : rs[i]? = some b) : all[pl + i]? = some (quote b) := by
  rw [← List.getElem?_drop, h]
  have hi : i < rs.length := (List.getElem?_eq_some_iff.mp hb).1
  rw [List.getElem?_append_left (by simp [closed]; omega)]
  unfold closed
  rw [List.getElem?_append_left (by simp; omega), List.getElem?_map, hb]
  rfl
theorem row_end {all rest rs : List (List Nat)} {pl : Nat} (h : all.drop pl = closed rs ++ rest) : all[pl + rs.length]? = some [46] := by
  rw [← List.getElem?_drop, h]
  rw [List.getElem?_append_left (by simp [closed])]
  unfold closed
  rw [List.getElem?_append_right (by simp)]
  simp
theorem str_eq_iff {x y : List Nat} : ((⟨x.toArray⟩ : Str) == ⟨y.toArray⟩) = decide (x = y) := by
  rw [Bool.eq_iff_iff, beq_iff_eq, decide_eq_true_iff]
  constructor
  · intro h; simpa using congrArg (fun x : Str => x.cps.toList) h
  · intro h; rw [h]
theorem lit_dot : Str.ofString "." = (⟨[46].toArray⟩ : Str) := by decide +kernel
theorem lit_gt : Str.ofString ">" = (⟨[62].toArray⟩ : Str) := by decide +kernel
theorem item_listN {D : Addr} {value slice : Expr} {its : Array Value} {k : Nat} {u : Tok} {v : Value} {Q : Value → Shared → Prop} (hl : s.heap.IsList D its) (hx : its[k]? = some v) (hfit : its.size ≤ 1000000) (h : Q v s)
    (hs : subscripted slice false (.ref D) (.int (k : Int) u) = operate [.ref D, .int (k : Int) u] (getItem (.ref D) (.int (k : Int) u)) := by with_unfolding_all rfl) :
    wpAny (model PySem.Challenge.rw_sn0117_01.row.prog w) A (subscriptTail value slice (.ref D) (.int (k : Int) u)) Q E s :=
  item_list hl (by omega) (by have := (Array.getElem?_eq_some_iff.mp hx).1; omega) (by rw [Int.toNat_natCast]; exact hx) h hs
theorem quote_len (b : List Nat) : b.length ≤ (quote b).length := by
  unfold quote
  split <;> simp
theorem turnOpen {body : List Stmt} {scope : Scope} (hF : FnAt (hd.heap_39 w.params) 86 body scope) {L fa : Addr} {ccd : Value} {g₀ g h : Heap} {m : Str → Option Value} {mu : List (Addr × Obj)} {s₁ : Shared}
    {Q : Flow → Shared → Prop} (B₀ : Base w g₀) (kg₀ : Keep g₀ g) {la : Addr} {its : Array Value} {nn i pl : Nat} (hla : g₀.get? la = some (listOf its nn)) {all rest rs : List (List Nat)} (hall : RowsV all its.toList) (hdrop : all.drop pl = closed rs ++ rest) (hlen : all.length ≤ 10000) (hsh : ∀ r ∈ all, r.length ≤ 1000)
    (hJ : OpenJ la pl rs i g m mu) (F : Fr g L h m) (N : News g L h mu) (tks : Nat) :
    wpAny (model PySem.Challenge.rw_sn0117_01.row.prog w) A (isTrue (whileTest (nth body 1)) (envOf (Str.ofString "_law_open") scope L fa ccd) (eval (whileTest (nth body 1)) (envOf (Str.ofString "_law_open") scope L fa ccd))) (fun b s₂ =>
      if b = true then wpAny (model PySem.Challenge.rw_sn0117_01.row.prog w) A (execs (whileBody (nth body 1)) (envOf (Str.ofString "_law_open") scope L fa ccd)) (Turn L [] [] (fun g' m' news' => i < rs.length ∧ OpenJ la pl rs (i + 1) g' m' news') { s₁ with heap := h, toks := tks } Q g) (fun _ _ => False) s₂
      else Turn L [] [] (OpenJ la pl rs rs.length) { s₁ with heap := h, toks := tks } Q g .next s₂) (fun _ _ => False) { s₁ with heap := h, toks := tks } := by
  have hF' : FnAt (hd.heap_39 w.params) 86 _ _ := ⟨_, _, _, _, by k_is, rfl, rfl⟩
  obtain ⟨rfl, rfl⟩ := FnAt.inj hF hF'
  clear hF hF'
  dsimp only [nth, whileBody, whileTest]
  obtain ⟨ba, vs, c, tp, mr, mp, mb', rfl, hV, hi⟩ := hJ
  obtain ⟨X', p, loose, mean, mg, mb, T⟩ := id (B₀.keeps kg₀)
  have hsz : its.size = all.length := by rw [← hall.len]; simp
  k_steps
  unfold Halt
  refine len_lst (isList_of (F.keep _ _ (kg₀ _ _ hla))) (by omega) fun t₁ tk₁ => ?_
  by_cases hlt : i < rs.length
  · obtain ⟨b, hb⟩ : ∃ b, rs[i]? = some b := ⟨_, List.getElem?_eq_getElem hlt⟩
    have hrow := row_at hdrop hb
    obtain ⟨t₂, hv⟩ := hall.get hrow
    rw [Array.getElem?_toList] at hv
    have hq1 : (quote b).length ≤ 1000 := hsh _ (List.mem_of_getElem? hrow)
    have hin : pl + i < its.size := (Array.getElem?_eq_some_iff.mp hv).1
    k_steps
    · unfold Halt
      refine item_listN (isList_of (F.keep _ _ (kg₀ _ _ hla))) hv (by omega) ?_
      k_steps
      · unfold Halt
        refine item_listN (isList_of (F.keep _ _ (kg₀ _ _ hla))) hv (by omega) ?_
        k_steps
        unfold Halt
        refine slice_strN_ns_len (s := ⟨_, _, _, _, _⟩) F N ?_ (hsz := ?_)
        rotate_left
        · show (quote b).toArray.size ≤ sizeLine
          simp [sizeLine]; omega
        intro h₃ t₃ tk₃ F₃ N₃ hsl
        rw [slice_one]
        clear F N
        have hba : h₃.get? ba = some (listOf vs c) := (newsHd N₃).1
        have hvs : vs.size ≤ 10000 := by
          have h1 := hV.len
          have h2 : rs.length + pl ≤ all.length := by
            have := congrArg List.length hdrop
            simp [closed] at this
            omega
          simp at h1
          omega
        have hcmp : ((⟨((quote b).take 1).toArray⟩ : Str) == Str.ofString ".") = decide ((quote b).take 1 = [46]) := by rw [lit_dot]; exact str_eq_iff
        have hback := quote_back b
        k_steps
        · (with_reducible rename ((_ == Str.ofString ".") = _) => hc)
          rw [hcmp, decide_eq_true_iff] at hc
          rw [if_pos hc] at hback
          unfold Halt
          refine method_append hba ?_
          k_steps
          unfold Halt
          refine item_listN (isList_of (F₃.keep _ _ (kg₀ _ _ hla))) hv (by omega) ?_
          k_steps
          unfold Halt
          refine slice_strN_sn_len (s := ⟨_, _, _, _, _⟩) F₃ N₃ ?_ (hsz := ?_)
          rotate_left
          · show (quote b).toArray.size ≤ sizeLine
            simp [sizeLine]; omega
          intro h₅ t₅ tk₅ F₅ N₅ hsl₂
          rw [show (1 : Int) = ((1 : Nat) : Int) from rfl, slice_drop, hback]
          clear F₃ N₃ hba
          k_steps
          unfold Halt
          (
            refine append_hd F₅ N₅ (fun _ h => nomatch h) (by simp [sizeLine]; omega) ?_
            intro h₇ F₇ N₇
            clear F₅ N₅
            k_steps
            (with_reducible rename Fr _ _ _ _ => F₈)
            (with_reducible rename News _ _ _ _ => N₈)
            refine Turn.next (Keep.refl _) F₈ (news' := [(ba, _)]) N₈ (fun _ _ h => nomatch h) ⟨hlt, ba, _, _, _, look_ne (by decide +kernel) mr, if_pos rfl, look_ne (by decide +kernel) mb', rfl, ?_, hlt⟩
            rw [Array.toList_push, List.take_succ, hb]
            refine hV.app ⟨_, [], rfl, rfl⟩)
        · (with_reducible rename ((_ == Str.ofString ".") = _) => hc)
          rw [hcmp, decide_eq_false_iff_not] at hc
          rw [if_neg hc] at hback
          rw [hback] at hv
          unfold Halt
          refine method_append hba ?_
          k_steps
          unfold Halt
          refine item_listN (isList_of (F₃.keep _ _ (kg₀ _ _ hla))) hv (by omega) ?_
          clear hba
          have F₅ := F₃
          have N₅ := N₃
          clear F₃ N₃
          k_steps
          unfold Halt
          (
            refine append_hd F₅ N₅ (fun _ h => nomatch h) (by simp [sizeLine]; omega) ?_
            intro h₇ F₇ N₇
            clear F₅ N₅
            k_steps
            (with_reducible rename Fr _ _ _ _ => F₈)
            (with_reducible rename News _ _ _ _ => N₈)
            refine Turn.next (Keep.refl _) F₈ (news' := [(ba, _)]) N₈ (fun _ _ h => nomatch h) ⟨hlt, ba, _, _, _, look_ne (by decide +kernel) mr, if_pos rfl, look_ne (by decide +kernel) mb', rfl, ?_, hlt⟩
            rw [Array.toList_push, List.take_succ, hb]
            refine hV.app ⟨_, [], rfl, rfl⟩)
      · (with_reducible rename ((_ != Str.ofString ".") = _) => hc)
        rw [lit_dot] at hc
        unfold bne at hc
        rw [str_eq_iff, Bool.not_eq_false', decide_eq_true_iff] at hc
        exact absurd hc (quote_ne b)
  · have he : i = rs.length := by omega
    subst he
    obtain ⟨t₂, hv⟩ := hall.get (row_end hdrop)
    rw [Array.getElem?_toList] at hv
    have hin : pl + rs.length < its.size := (Array.getElem?_eq_some_iff.mp hv).1
    k_steps
    unfold Halt
    refine item_listN (isList_of (F.keep _ _ (kg₀ _ _ hla))) hv (by omega) ?_
    k_steps
    exact Turn.next (Keep.refl _) F (news' := [(ba, _)]) N (fun _ _ h => nomatch h) ⟨ba, _, _, _, mr, mp, mb', rfl, hV, hi⟩

theorem bare_app : ∀ t u : Told, bare (t.app u) = bare t ++ bare u
  | .nil, _ => rfl
  | .txt b r, u => by simp only [Told.app, bare, bare_app r u, List.cons_append]
  | .sub l r, u => by simp only [Told.app, bare, bare_app r u, List.cons_append, List.append_assoc]
def OpenJ2 (n : Nat) (t : Told) (ba : Addr) (vs : Array Value) (c : Nat) (q : Int) (i : Nat) (_ : Heap) (m : Str → Option Value) (mu : List (Addr × Obj)) : Prop :=
  ∃ ia ws c2 fz tp tr tq tt, m (Str.ofString "bare") = some (.ref ba) ∧ m (Str.ofString "place") = some (.int q tq) ∧ m (Str.ofString "items") = some (.ref ia) ∧ m (Str.ofString "spot") = some (.int (((bare tp).length : Nat) : Int) tt) ∧ mu = (ia, listOf ws c2) :: (ba, listOf vs c) :: fz ∧ Vals (In fz) (ofT tp) ws.toList ∧ tp.app tr = t ∧ tr.Ok ∧ (ofT tr).dep ≤ n ∧ (∀ p ∈ (ba, listOf vs c) :: fz, p.1 ≠ ia) ∧ i ≤ (bare tp).length ∧ ws.size ≤ (bare tp).length
def OpenD2 (t : Told) (q : Int) (_ : Heap) (m : Str → Option Value) (mu : List (Addr × Obj)) : Prop :=
  ∃ ia ws c2 fz tq, m (Str.ofString "place") = some (.int q tq) ∧ m (Str.ofString "items") = some (.ref ia) ∧ mu = (ia, listOf ws c2) :: fz ∧ Vals (In fz) (ofT t) ws.toList

theorem turnOpen2 {body : List Stmt} {scope : Scope} (hF : FnAt (hd.heap_39 w.params) 86 body scope) (n : Nat) (ih : ∀ m, m < n → OpenOK w m) (hh : A.handled = none) (hr : A.depth + n < recursionLimit) {L fa : Addr} {ccd : Value} {g₀ g h : Heap} {m : Str → Option Value} {mu : List (Addr × Obj)} {s₁ : Shared}
    {Q : Flow → Shared → Prop} (B₀ : Base w g₀) (kg₀ : Keep g₀ g) {t : Told} {ba : Addr} {vs : Array Value} {c i : Nat} {q : Int} (hV : RowsV (bare t) vs.toList) (hlen : (bare t).length ≤ 10000) (hsh : ∀ r ∈ bare t, r.length ≤ 1000)
    (hJ : OpenJ2 n t ba vs c q i g m mu) (F : Fr g L h m) (N : News g L h mu) (tks : Nat) :
    wpAny (model PySem.Challenge.rw_sn0117_01.row.prog w) A (isTrue (whileTest (nth body 4)) (envOf (Str.ofString "_law_open") scope L fa ccd) (eval (whileTest (nth body 4)) (envOf (Str.ofString "_law_open") scope L fa ccd))) (fun b s₂ =>
      if b = true then wpAny (model PySem.Challenge.rw_sn0117_01.row.prog w) A (execs (whileBody (nth body 4)) (envOf (Str.ofString "_law_open") scope L fa ccd)) (Turn L [] [] (fun g' m' news' => i < (bare t).length ∧ OpenJ2 n t ba vs c q (i + 1) g' m' news') { s₁ with heap := h, toks := tks } Q g) (fun _ _ => False) s₂
      else Turn L [] [] (OpenD2 t q) { s₁ with heap := h, toks := tks } Q g .next s₂) (fun _ _ => False) { s₁ with heap := h, toks := tks } := by
  have hF' : FnAt (hd.heap_39 w.params) 86 _ _ := ⟨_, _, _, _, by k_is, rfl, rfl⟩
  obtain ⟨rfl, rfl⟩ := FnAt.inj hF hF'
  clear hF hF'
  dsimp only [nth, whileBody, whileTest]
  obtain ⟨ia, ws, c2, fz, tp, tr, tq, tt, mb', mp, mi, ms, rfl, hW, hT, hok, hde, hne, hi, hws⟩ := hJ
  obtain ⟨X', p, loose, mean, mg, mb, T⟩ := id (B₀.keeps kg₀)
  have hsz : vs.size = (bare t).length := by rw [← hV.len]; simp
  have hb : bare t = bare tp ++ bare tr := by rw [← hT, bare_app]
  have hbl := congrArg List.length hb
  rw [List.length_append] at hbl
  have hba : h.get? ba = some (listOf vs c) := (newsHd (newsTl N)).1
  have hia : h.get? ia = some (listOf ws c2) := (newsHd N).1
  k_steps
  unfold Halt
  refine len_lst (isList_of hba) (by omega) fun t₁ tk₁ => ?_
  cases tr with
  | nil =>
    have e0 : tp = t := by rw [← hT, Told.app_nil]
    subst e0
    simp only [bare, List.length_nil] at hbl
    k_steps
    exact Turn.next (Keep.refl _) F (news' := (ia, listOf ws c2) :: (ba, listOf vs c) :: fz) (fun p hp => N p (by simpa using hp)) (fun _ _ h => nomatch h) ⟨ia, ws, c2, _, tq, mp, mi, rfl, hW.mono fun _ _ h => List.mem_cons_of_mem _ h⟩
  | txt b tr =>
    have hrow : (bare t)[(bare tp).length]? = some b := by rw [hb, List.getElem?_append_right (Nat.le_refl _)]; simp [bare]
    obtain ⟨t₂, hv⟩ := hV.get hrow
    rw [Array.getElem?_toList] at hv
    have hin : (bare tp).length < vs.size := (Array.getElem?_eq_some_iff.mp hv).1
    k_steps
    unfold Halt
    refine item_listN (isList_of hba) hv (by omega) ?_
    have hcmp : ((⟨b.toArray⟩ : Str) == Str.ofString ">") = decide (b = [62]) := by rw [lit_gt]; exact str_eq_iff
    k_steps
    · (with_reducible rename ((_ == Str.ofString ">") = _) => hc)
      rw [hcmp, decide_eq_true_iff] at hc
      exact absurd hc hok.2.1
    · unfold Halt
      refine method_append hia ?_
      k_steps
      unfold Halt
      refine item_listN (isList_of hba) hv (by omega) ?_
      k_steps
      unfold Halt
      refine append_hd F N hne (by simp [sizeLine]; omega) ?_
      intro h₅ F₅ N₅
      clear F N hba hia
      k_steps
      (with_reducible rename Fr _ _ _ _ => F₈)
      (with_reducible rename News _ _ _ _ => N₈)
      have hbt : (bare (tp.app (.txt b .nil))).length = (bare tp).length + 1 := by rw [bare_app]; simp [bare]
      refine Turn.next (Keep.refl _) F₈ (news' := (ia, _) :: (ba, listOf vs c) :: fz) (fun p hp => N₈ p (by simpa using hp)) (fun _ _ h => nomatch h) ⟨by omega, ia, _, _, fz, tp.app (.txt b .nil), tr, tq, ?tt, look_ne (by decide +kernel) mb', look_ne (by decide +kernel) mp, look_ne (by decide +kernel) mi, ?gs, rfl, ?_, ?_, hok.2.2, hde, hne, by omega, ?_⟩
      case gs => rw [hbt]; exact if_pos rfl
      · rw [Array.toList_push]; exact Vals_app hW ⟨t₂, [], rfl, rfl⟩
      · rw [Told.app_assoc]; exact hT
      · rw [Array.size_push]; omega
  | sub l tr =>
    have hrow : (bare t)[(bare tp).length]? = some [62] := by rw [hb, List.getElem?_append_right (Nat.le_refl _)]; simp [bare]
    obtain ⟨t₂, hv⟩ := hV.get hrow
    rw [Array.getElem?_toList] at hv
    have hin : (bare tp).length < vs.size := (Array.getElem?_eq_some_iff.mp hv).1
    have hdrop : (bare t).drop ((bare tp).length + 1) = closed (bare l) ++ bare tr := by
      rw [hb, ← List.drop_drop, List.drop_left]
      simp [bare]
    k_steps
    unfold Halt
    refine item_listN (isList_of hba) hv (by omega) ?_
    k_steps
    unfold Halt
    refine ih (ofT l).dep ?_ (B₀.keeps (kg₀.trans F.keep)) hh l hok.2.1 (Nat.le_refl _) ?_ ba vs c hba (bare t) (bare tr) hV ((bare tp).length + 1) _ hdrop hlen hsh ?_
    · simp only [ofT, Gen.dep] at hde; omega
    · simp only [ofT, Gen.dep] at hde; omega
    intro h₅ tk₅ fz₅ ra₅ vs₅ c₅ tu₅ t₅ kp₅ hnew hra hV₅ htu _
    have F₅ := F.keptAll kp₅
    have Nz : News g L h₅ fz₅ := fun p hp => fresh_news F (hnew p hp).1 (hnew p hp).2
    have N₅ := newsCon (newsHd (N.grown kp₅)) (newsCon (newsHd (newsTl (N.grown kp₅))) (Nz.append (newsTl (newsTl (N.grown kp₅)))))
    have hfresh : ∀ p ∈ fz₅, p.1 ≠ ia := by
      intro p hp e
      have h1 := (hnew p hp).2
      rw [e] at h1
      rw [show h.get? ia = none from h1] at hia
      cases hia
    clear F N Nz
    k_steps
    unfold Halt
    refine unpackN_ F₅ N₅ (⟨_, htu, rfl, _, rfl⟩) hh (by rfl) (by rfl) ?_
    intro h₆ F₆ N₆
    clear F₅ N₅ htu
    k_steps
    unfold Halt
    (with_reducible rename Fr _ _ _ _ => F₇)
    (with_reducible rename News _ _ _ _ => N₇)
    refine method_append (newsHd N₇).1 ?_
    k_steps
    unfold Halt
    refine append_hd F₇ N₇ ?_ (by simp [sizeLine]; omega) ?_
    · intro p hp
      rcases List.mem_cons.mp hp with rfl | hp
      · exact hne (ba, listOf vs c) (List.mem_cons_self ..)
      · exact (List.mem_append.mp hp).elim (hfresh p) fun hp => hne p (List.mem_cons_of_mem _ hp)
    intro h₈ F₈ N₈
    clear F₇ N₇
    k_steps
    have hbt : (bare (tp.app (.sub l .nil))).length = (bare tp).length + 1 + (bare l).length + 1 := by rw [bare_app]; simp [bare, closed]; omega
    have hl2 : (bare t).length = (bare tp).length + 1 + (bare l).length + 1 + (bare tr).length := by
      rw [hbl]; simp [bare, closed]; omega
    refine Turn.next (Keep.refl _) F₈ (news' := (ia, _) :: (ba, listOf vs c) :: (fz₅ ++ fz)) (fun p hp => N₈ p (by simpa using hp)) (fun _ _ h => nomatch h) ⟨by omega, ia, _, _, fz₅ ++ fz, tp.app (.sub l .nil), tr, tq, ?tt2, look_ne (by decide +kernel) (look_ne (by decide +kernel) mb'), look_ne (by decide +kernel) (look_ne (by decide +kernel) mp), look_ne (by decide +kernel) (look_ne (by decide +kernel) mi), ?gs2, rfl, ?_, ?_, hok.2.2, ?_, ?_, by omega, ?_⟩
    case gs2 => rw [hbt]; exact if_pos rfl
    · rw [Array.toList_push]
      exact Vals_app (hW.mono In.right) ⟨ra₅, vs₅, c₅, [], rfl, In.left _ _ hra, hV₅.mono In.left, rfl⟩
    · rw [Told.app_assoc]; exact hT
    · simp only [ofT, Gen.dep] at hde; omega
    · intro p hp
      rcases List.mem_cons.mp hp with rfl | hp
      · exact hne (ba, listOf vs c) (List.mem_cons_self ..)
      · exact (List.mem_append.mp hp).elim (hfresh p) fun hp => hne p (List.mem_cons_of_mem _ hp)
    · rw [Array.size_push]; omega

theorem open_step (n : Nat) (ih : ∀ m, m < n → OpenOK w m) : OpenOK w n := by
  intro A E s Q B hh t hok hde hr la its nn hla all rest hall pl tp hdrop hlen hsh hq
  have hF : FnAt (hd.heap_39 w.params) 86 _ _ := ⟨_, _, _, _, by k_is, rfl, rfl⟩
  have hlb : (bare t).length ≤ 10000 := by
    have := congrArg List.length hdrop
    simp [closed] at this
    omega
  have hsb : ∀ r ∈ bare t, r.length ≤ 1000 := by
    intro r hr
    have h1 : quote r ∈ all := by
      refine List.mem_of_mem_drop (i := pl) ?_
      rw [hdrop]
      refine List.mem_append_left _ (List.mem_append_left _ (List.mem_map_of_mem hr))
    exact Nat.le_trans (quote_len r) (hsh _ h1)
  obtain ⟨X, p, loose, mean, mg, mb, T⟩ := id B
  refine' enterK [(Str.ofString "rows", .ref la), (Str.ofString "place", .int (pl : Int) tp)] (by omega) X ?k6 ?k7 T.nolimit ?k9 ?kB ?_ ?c2 ?c3 ?c4 ?c5
  walk_at "mine enter"
  intro h₁ kp F N X'
  k_steps
  unfold Halt
  (with_reducible rename Fr _ _ _ _ => F₂)
  (with_reducible rename News _ _ _ _ => N₂)
  refine while_grow (OpenJ la pl (bare t)) (OpenJ la pl (bare t) (bare t).length) (bare t).length F₂ N₂ ⟨_, _, _, tp, ?m1, ?m2, if_pos rfl, rfl, rfl, Nat.zero_le _⟩ ?_ ?_
  case m1 => walk_at "mine look"
  case m2 => walk_at "mine look"
  · clear F₂ N₂
    intro i g₁ m₁ news₁ h₂ tk₂ hi hJ kg F₃ N₃
    exact turnOpen hF B kg hla hall hdrop hlen hsh hJ F₃ N₃ _
  clear F₂ N₂
  rintro g₁ h₂ tk₂ m₁ news₁ kg₁ F₃ N₃ ⟨ba, vs, c, tq, mr, mp, mb', rfl, hV, -⟩
  rw [List.take_length] at hV
  have X₁ := X.keeps kg₁
  have T₁ := T.keeps kg₁
  k_steps
  unfold Halt
  (with_reducible rename Fr _ _ _ _ => F₂)
  (with_reducible rename News _ _ _ _ => N₂)
  (with_reducible rename (ba < _) => hbl)
  refine while_grow (OpenJ2 n t ba vs c ((pl + (bare t).length : Nat) : Int)) (OpenD2 t ((pl + (bare t).length : Nat) : Int)) (bare t).length F₂ N₂ ⟨_, #[], 0, [], .nil, t, tq, ?tt, ?m1, ?m2, ?m3, ?m4, rfl, rfl, rfl, hok, hde, ?_, Nat.zero_le _, Nat.zero_le _⟩ ?_ ?_
  case m1 => walk_at "mine look"
  case m2 => walk_at "mine look"
  case m3 => walk_at "mine look"
  case m4 => rw [show ((((bare Told.nil).length : Nat)) : Int) = 0 from rfl]; exact if_pos rfl
  · intro p hp
    rw [List.mem_singleton.mp hp]
    exact Nat.ne_of_lt hbl
  · clear F₂ N₂
    intro i g₂ m₂ news₂ h₄ tk₄ hi hJ kg F₄ N₄
    refine turnOpen2 hF n ih ?_ ?_ B (kg₁.trans kg) hV hlb hsb hJ F₄ N₄ _
    · exact hh
    · show A.depth + 1 + n < _
      omega
  clear F₂ N₂
  rintro g₂ h₄ tk₄ m₂ news₂ kg₂ F₄ N₄ ⟨ia, ws, c2, fz, tq₂, mp₂, mi, rfl, hW⟩
  have X₂ := X₁.keeps kg₂
  have T₂ := T₁.keeps kg₂
  k_steps
  (with_reducible rename Fr _ _ _ _ => F₅)
  (with_reducible rename News _ _ _ _ => N₅)
  have kall := (kg₁.trans kg₂)
  refine hq _ _ _ ia ws c2 _ (tk₄ + 1) (kall.trans F₅.keep) (new_of kall (newsTl N₅)) (List.mem_cons_self ..) (hW.mono fun _ _ h => List.mem_cons_of_mem _ h) (newsHd N₅).1 (none_of kall (newsHd N₅).2.2)
theorem open_spec (w : World) (n : Nat) : OpenOK w n := by
  induction n using Nat.strongRecOn with
  | ind n ih => exact open_step n fun m hm => ih m hm

theorem KTurns.wide {prog : Program} {target : Expr} {I : Addr} {fp wr wr' : List Addr} {n : Nat} {P Md : Nat → Value → Heap → Prop} {St : Nat → Heap → Prop} (W : KTurns prog w A target I fp wr n P Md St) (hs : ∀ b ∈ wr, b ∈ wr') (hf : ∀ b ∈ wr', b ∈ fp) : KTurns prog w A target I fp wr' n P Md St where
  sub := hf
  frame := W.frame
  item := fun i s Q E hi st hQ => W.item i s Q E hi st fun v h' tk hm hk => hQ v h' tk hm fun b o hb => hk b o fun h => hb (hs b h)
  go := fun i v s Q E hm hQ => W.go i v s Q E hm fun h' hp hst hk => hQ h' hp hst fun b o hb => hk b o fun h => hb (hs b h)
  done := fun s Q E hst hQ => W.done s Q E hst fun h' tk hk => hQ h' tk fun b o hb => hk b o fun h => hb (hs b h)

/-- a for over a list that was made in this call and that the body leaves alone -/
theorem for_new {prog : Program} {x : Str} {px pos : Pos} {iter : Expr} {cn : Str} {cs : Scope} {L aF : Addr} {ccd : Value} {body : List Stmt} {Q : Flow → Shared → Prop} (hh : A.handled = none) (hx : (envOf cn cs L aF ccd).kindOf x = some .local) (hp : ((envOf cn cs L aF ccd).scope.kind == .class || ((envOf cn cs L aF ccd).scope.kind == .module && L != (envOf cn cs L aF ccd).globals)) = false)
    (J : Nat → Heap → (Str → Option Value) → List (Addr × Obj) → Prop)
    (h : wpAny (model prog w) A (eval iter (envOf cn cs L aF ccd)) (fun xv s₁ => Halt (∃ l items g m news, xv = .ref l ∧ s₁.heap.IsList l items ∧ l ≠ L ∧ g.get? l = none ∧ (∀ p ∈ news, p.1 ≠ l) ∧ Fr g L s₁.heap m ∧ News g L s₁.heap news ∧ J 0 g m news ∧
      (∀ i v g₁ m₁ news₁ h₁ tk₁ own wr, items[i]? = some v → J i g₁ m₁ news₁ → Keep g g₁ → (∀ p ∈ news₁, p.1 ∉ wr) → (∀ b ∈ wr, ∃ o, (b, o) ∈ own) → (∀ p ∈ own, p.1 ∈ wr) →
        Fr g₁ L h₁ (fun y => if y = x then some v else m₁ y) → News g₁ L h₁ (news₁ ++ own) →
        wpAny (model prog w) A (execs body (envOf cn cs L aF ccd)) (Turn L own wr (J (i + 1)) { s₁ with heap := h₁, toks := tk₁ } Q g₁) (fun _ _ => False) { s₁ with heap := h₁, toks := tk₁ }) ∧
      (∀ g' h' tk m' news', Keep g g' → Fr g' L h' m' → News g' L h' news' → J items.size g' m' news' → Q .next { s₁ with heap := h', toks := tk }))) (fun _ _ => False) s)
    (hs : ∀ z, foldedSetIterable iter (envOf cn cs L aF ccd) z = pure z := by intro _; rfl) :
    wpAny (model prog w) A (exec (.For (.Name x px) iter body [] pos) (envOf cn cs L aF ccd)) Q (fun _ _ => False) s := by
  refine wpAny_For (wpAny_mono h (fun xv s₁ h₁ => ?_) fun _ _ e => e) hs
  obtain ⟨l, items, g, m, news, rfl, hls, hlL, hgl, hnl, F, N, h0, step, done⟩ := h₁
  obtain ⟨ol, hol, _⟩ := id hls
  have hne : l ≠ s₁.heap.objs.size := Nat.ne_of_lt (Heap.lt_size hol)
  refine wpAny_pyIter_list hls ?_
  have W := KTurns.wide (wr' := [s₁.heap.objs.size, l]) (KTurns.ofWalks (target := .Name x px) (Walks.list (prog := prog) (w := w) hh s₁.heap.objs.size l hne items) fun _ _ _ _ _ _ hq => go_name hq)
    (fun b hb => by rw [List.mem_singleton.mp hb]; exact List.mem_cons_self ..) (fun b hb => hb)
  refine grow_loop (R := fun r s' => match r with | .ok f => Q f s' | .error e => cameBackBy (model prog w) A (envOf cn cs L aF ccd) (fun _ _ => False) e s') W ?_ ?_ ?_ ?_ ?_ ⟨⟨_, Heap.get?_push_size _ rfl, rfl, rfl⟩, hls.at fun o e => Heap.get?_push_of_some _ e⟩ (F.push _)
    (fun p hp => ⟨Heap.get?_push_of_some _ (N p hp).1, (N p hp).2⟩) J h0 ?_ ?_
  · rintro i h ⟨⟨o, ho, _⟩, ⟨o2, ho2, _⟩⟩ b hb
    rcases List.mem_cons.mp hb with rfl | hb
    · exact ⟨o, ho⟩
    · rw [List.mem_singleton.mp hb]; exact ⟨o2, ho2⟩
  · intro b hb hn
    exact absurd hb hn
  · intro hm
    rcases List.mem_cons.mp hm with e | hm
    · exact absurd F.ns.lt (e ▸ Nat.lt_irrefl _)
    · exact hlL (List.mem_singleton.mp hm).symm
  · intro b hb
    rcases List.mem_cons.mp hb with rfl | hb
    · exact next_is_new F
    · rw [List.mem_singleton.mp hb]; exact hgl
  · intro p hp hI
    rcases List.mem_cons.mp hI with e | hI
    · exact absurd (Heap.lt_size (N p hp).1) (e ▸ Nat.lt_irrefl _)
    · exact hnl p hp (List.mem_singleton.mp hI)
  · intro i v g₁ m₁ news₁ h₁ tk₁ own hi hP hJ kg hnw hown hsub hst F₁ N₁
    refine wpAny_passesOwn PassesOwn.never (wpAny_assign_Name (wpAny_storeName_local hx F₁.ns (fun h₂ hn₂ hs₂ => ?_) hp)) |> fun z => wpAny_mono z (fun _ _ y => y) fun _ _ y => y
    exact wpAny_passesOwn PassesOwn.never (step i v g₁ m₁ news₁ h₂ _ own _ hP hJ kg hnw hown hsub (F₁.set hn₂ hs₂) (N₁.set hs₂))
  · exact fun g' h' tk m' news' kg F' N' hJ => done g' h' tk m' news' kg F' N' hJ

def DrawnJ (i : Nat) (_ : Heap) (m : Str → Option Value) (mu : List (Addr × Obj)) : Prop :=
  ∃ sa vs n ns, m (Str.ofString "drawn") = some (.ref sa) ∧ mu = [(sa, listOf vs n)] ∧ IntsAre vs.toList ns ∧ ns.length = min i 14

theorem turnDrawn {body : List Stmt} {scope : Scope} (hF : FnAt (hd.heap_39 w.params) 74 body scope) {L fa : Addr} {ccd : Value} {g₀ g h : Heap} {m : Str → Option Value} {mu own : List (Addr × Obj)} {wr : List Addr} {s₁ : Shared}
    {Q : Flow → Shared → Prop} (B₀ : Base w g₀) (kg₀ : Keep g₀ g) {its : Array Value} {ns : List Int} (hi : IntsAre its.toList ns) {i : Nat} {v : Value} {t : Tok} (hv : its[i]? = some v)
    (hJ : DrawnJ i g m mu) (hnw : ∀ p ∈ mu, p.1 ∉ wr) (hsub : ∀ p ∈ own, p.1 ∈ wr)
    (F₄ : Fr g L h (fun z => if z = Str.ofString "x" then some v else if z = Str.ofString "place" then some (.int (i : Int) t) else m z)) (N₄ : News g L h (mu ++ own)) (tks : Nat) :
    wpAny (model PySem.Challenge.rw_sn0117_01.row.prog w) A (execs (forBody (nth body 1)) (envOf (Str.ofString "_law_spool") scope L fa ccd)) (Turn L own wr (DrawnJ (i + 1)) { s₁ with heap := h, toks := tks } Q g) (fun _ _ => False) { s₁ with heap := h, toks := tks } := by
  have hF' : FnAt (hd.heap_39 w.params) 74 _ _ := ⟨_, _, _, _, by k_is, rfl, rfl⟩
  obtain ⟨rfl, rfl⟩ := FnAt.inj hF hF'
  clear hF hF'
  dsimp only [nth, forBody]
  obtain ⟨sa, vs', n, ns', hm, rfl, hi', hlen⟩ := hJ
  obtain ⟨X', p, loose, mean, mg, mb, T⟩ := id (B₀.keeps kg₀)
  have hsz' : vs'.size = ns'.length := by rw [← Array.length_toList]; exact hi'.length
  simp only [List.cons_append, List.nil_append] at N₄
  have hne := off_own hsub hnw (List.mem_singleton.mpr rfl)
  have hsa : h.get? sa = some (listOf vs' n) := (N₄ _ (List.mem_cons_self ..)).1
  obtain ⟨k, u, rfl⟩ := ints_item hi hv
  k_steps
  · unfold Halt
    refine method_append hsa ?_
    k_steps
    unfold Halt
    refine append_hd F₄ N₄ hne (by rw [hsz', hlen]; simp [sizeLine]; omega) ?_
    intro h₅ F₅ N₅
    clear F₄ N₄ hsa
    k_steps
    refine Turn.next (Keep.refl _) F₅ N₅ (fun p hp => by rw [List.mem_singleton.mp hp]; exact (hnw (sa, listOf vs' n) (List.mem_singleton.mpr rfl) : sa ∉ wr)) ⟨sa, vs'.push (.int k u), n + 1, ns' ++ [k], ?_, rfl, ?_, ?_⟩
    · exact look_ne (by decide +kernel) (look_ne (by decide +kernel) hm)
    · rw [Array.toList_push]; exact ints_snoc hi' k u
    · rw [List.length_append, List.length_singleton, hlen]; omega
  · unfold Halt
    (with_reducible rename Fr _ _ _ _ => F₅)
    (with_reducible rename News _ _ _ _ => N₅)
    have h7 : ns'.length = 14 := by omega
    have hlo : (0 : Int) ≤ Int.fmod i 14 := by rw [Int.fmod_eq_emod_of_nonneg _ (by omega)]; exact Int.emod_nonneg _ (by omega)
    have hhi : Int.fmod i 14 < 14 := by rw [Int.fmod_eq_emod_of_nonneg _ (by omega)]; exact Int.emod_lt_of_pos _ (by omega)
    refine set_hd F₅ N₅ hne hlo (by omega) (by omega) ?_
    intro h₅ F₅ N₅
    clear hsa
    generalize (ns'.getD (Int.fmod i 14).toNat 0 + k) = z, (Int.fmod i 14).toNat = j at F₅ N₅ ⊢
    k_steps
    refine Turn.next (Keep.refl _) F₅ N₅ (fun p hp => by rw [List.mem_singleton.mp hp]; exact (hnw (sa, listOf vs' n) (List.mem_singleton.mpr rfl) : sa ∉ wr)) ⟨sa, _, n, _, ?_, rfl, ints_set hi' _ _ _, ?_⟩
    · exact look_ne (by decide +kernel) (look_ne (by decide +kernel) hm)
    · rw [List.length_set, hlen]; omega

def bodyRows : List (List Nat) := [[46], [97], [], [46, 62], [133, 46], [46, 46], [92, 110, 11, 62]]
def bodiesO (ts : Nat → Tok) : Obj := { cls := .type "tuple", data := .seq #[.str ⟨#[46]⟩ (ts 0), .str ⟨#[97]⟩ (ts 1), .str ⟨#[]⟩ (ts 2), .str ⟨#[46, 62]⟩ (ts 3), .str ⟨#[133, 46]⟩ (ts 4), .str ⟨#[46, 46]⟩ (ts 5), .str ⟨#[92, 110, 11, 62]⟩ (ts 6)] }
structure Frm where
  a : Addr
  its : Array Value
  n : Nat
  d : Draw
def frObj (f : Frm) : Addr × Obj := (f.a, listOf f.its f.n)
/-- the letters that stand open, the innermost first -/
def Spine (S : Addr → Obj → Prop) : List Value → List Frm → Prop
  | _, [] => True
  | c, f :: r => (∃ vs, f.its.toList = vs ++ c ∧ Vals S (ofD f.d) vs) ∧ f.d.Ok ∧ (ofD f.d).Short ∧ (ofD f.d).dep + (r.length + 1) ≤ 3 ∧ Spine S [.ref f.a] r
theorem Spine.mono {S S' : Addr → Obj → Prop} (k : ∀ a o, S a o → S' a o) : ∀ {c : List Value} {fs : List Frm}, Spine S c fs → Spine S' c fs
  | _, [], _ => trivial
  | _, f :: r, ⟨⟨vs, e, h⟩, h1, h2, h3, h4⟩ => ⟨⟨vs, e, h.mono k⟩, h1, h2, h3, h4.mono k⟩
def bottom : Frm → List Frm → Frm
  | f, [] => f
  | _, g :: r => bottom g r
def cntF : List Frm → Nat
  | [] => 0
  | f :: r => (ofD f.d).cnt + 1 + cntF r
def Letter (S : Addr → Obj → Prop) (a : Addr) (d : Draw) : Prop := (∃ its n, S a (listOf its n) ∧ Vals S (ofD d) its.toList) ∧ d.Ok ∧ (ofD d).Short ∧ (ofD d).dep ≤ 2 ∧ (ofD d).cnt ≤ 14
theorem Letter.mono {S S' : Addr → Obj → Prop} (k : ∀ a o, S a o → S' a o) {a : Addr} {d : Draw} (h : Letter S a d) : Letter S' a d := by
  obtain ⟨⟨its, n, h1, h2⟩, h3⟩ := h
  exact ⟨⟨its, n, k _ _ h1, h2.mono k⟩, h3⟩
def SpoolJ (i : Nat) (_ : Heap) (m : Str → Option Value) (mu : List (Addr × Obj)) : Prop :=
  ∃ (sp : Addr) (spI : Array Value) (spn : Nat) (ch : Addr) (chI : Array Value) (chn : Nat) (bt : Addr) (ts : Nat → Tok) (f : Frm) (r : List Frm) (fz : List (Addr × Obj)) (ls : List (Addr × Draw)), m (Str.ofString "spool") = some (.ref sp) ∧ m (Str.ofString "chain") = some (.ref ch) ∧ m (Str.ofString "bodies") = some (.ref bt) ∧
    mu = (sp, listOf spI spn) :: (ch, listOf chI chn) :: frObj f :: (r.map frObj ++ fz) ∧ In fz bt (bodiesO ts) ∧
    spI.toList = (ls.map fun e => Value.ref e.1) ++ [.ref (bottom f r).a] ∧ chI.toList = ((f :: r).map fun f => Value.ref f.a).reverse ∧
    Spine (In fz) [] (f :: r) ∧ (∀ e ∈ ls, Letter (In fz) e.1 e.2) ∧ cntF (f :: r) ≤ i + 1 ∧ ls.length ≤ i ∧ (mu.map (·.1)).Nodup

theorem pick7 {D : Addr} {value slice : Expr} {k : Nat} {ts : Nat → Tok} {u : Tok} {Q : Value → Shared → Prop} (hk : k < 7) (hl : s.heap.get? D = some (bodiesO ts)) (hq : ∀ t, Q (.str ⟨(bodyRows.getD k []).toArray⟩ t) s)
    (hs : subscripted slice false (.ref D) (.int (k : Int) u) = operate [.ref D, .int (k : Int) u] (getItem (.ref D) (.int (k : Int) u)) := by with_unfolding_all rfl) :
    wpAny (model PySem.Challenge.rw_sn0117_01.row.prog w) A (subscriptTail value slice (.ref D) (.int (k : Int) u)) Q E s := by
  obtain ⟨v, hv, hqv⟩ : ∃ v, (#[.str ⟨#[46]⟩ (ts 0), .str ⟨#[97]⟩ (ts 1), .str ⟨#[]⟩ (ts 2), .str ⟨#[46, 62]⟩ (ts 3), .str ⟨#[133, 46]⟩ (ts 4), .str ⟨#[46, 46]⟩ (ts 5), .str ⟨#[92, 110, 11, 62]⟩ (ts 6)] : Array Value)[k]? = some v ∧ Q v s := by
    rcases (by omega : k = 0 ∨ k = 1 ∨ k = 2 ∨ k = 3 ∨ k = 4 ∨ k = 5 ∨ k = 6) with rfl | rfl | rfl | rfl | rfl | rfl | rfl
    · exact ⟨_, rfl, hq _⟩
    · exact ⟨_, rfl, hq _⟩
    · exact ⟨_, rfl, hq _⟩
    · exact ⟨_, rfl, hq _⟩
    · exact ⟨_, rfl, hq _⟩
    · exact ⟨_, rfl, hq _⟩
    · exact ⟨_, rfl, hq _⟩
  exact item_tup ⟨_, hl, rfl, _, rfl⟩ (by omega) (by omega) (by rw [Int.toNat_natCast]; exact hv) hqv hs
theorem rows_ok : ∀ b ∈ bodyRows, (∀ c ∈ b, c ≠ 10 ∧ c ≠ 13) ∧ b ≠ [62] ∧ b.length ≤ 4 ∧ ∀ c ∈ b, c < 256 := by decide
theorem row_ok {k : Nat} (hk : k < 7) : Clean (bodyRows.getD k []) ∧ bodyRows.getD k [] ≠ [62] ∧ (bodyRows.getD k []).length ≤ 4 ∧ ∀ c ∈ bodyRows.getD k [], c < 256 := by
  rcases (by omega : k = 0 ∨ k = 1 ∨ k = 2 ∨ k = 3 ∨ k = 4 ∨ k = 5 ∨ k = 6) with rfl | rfl | rfl | rfl | rfl | rfl | rfl <;> exact rows_ok _ (by decide)
theorem apart {a : Addr × Obj} {l : List (Addr × Obj)} (h : ((a :: l).map (·.1)).Nodup) : ∀ p ∈ l, p.1 ≠ a.1 := by
  intro p hp e
  simp only [List.map_cons, List.nodup_cons] at h
  exact h.1 (e ▸ List.mem_map_of_mem hp)
theorem push_of {I : Array Value} {l : List Value} {v : Value} (h : I.toList = l ++ [v]) : ∃ P : Array Value, I = P.push v ∧ P.toList = l := by
  refine ⟨l.toArray, ?_, by simp⟩
  apply Array.toList_inj.mp
  rw [h]; simp
theorem newsSub {g h : Heap} {L : Addr} {a b : List (Addr × Obj)} (N : News g L h a) (k : ∀ p ∈ b, p ∈ a) : News g L h b := fun p hp => N p (k p hp)
theorem front3 {g h : Heap} {L : Addr} {a b c d : Addr × Obj} {l : List (Addr × Obj)} (N : News g L h (a :: b :: c :: d :: l)) : News g L h (d :: a :: b :: c :: l) :=
  newsCon (newsHd (newsTl (newsTl (newsTl N)))) (newsCon (newsHd N) (newsCon (newsHd (newsTl N)) (newsCon (newsHd (newsTl (newsTl N))) (newsTl (newsTl (newsTl (newsTl N)))))))
theorem front2 {g h : Heap} {L : Addr} {a b c : Addr × Obj} {l : List (Addr × Obj)} (N : News g L h (a :: b :: c :: l)) : News g L h (c :: a :: b :: l) :=
  newsCon (newsHd (newsTl (newsTl N))) (newsCon (newsHd N) (newsCon (newsHd (newsTl N)) (newsTl (newsTl (newsTl N)))))
theorem nodup_new {D : Addr} {l l' : List (Addr × Obj)} (hp : (l'.map (·.1)).Perm (D :: l.map (·.1))) (hD : ∀ p ∈ l, p.1 < D) (h : (l.map (·.1)).Nodup) : (l'.map (·.1)).Nodup := by
  refine hp.nodup_iff.mpr (List.nodup_cons.mpr ⟨fun hm => ?_, h⟩)
  obtain ⟨p, hp, e⟩ := List.mem_map.mp hm
  have h1 := hD p hp
  rw [show p.1 = D from e] at h1
  exact absurd h1 (Nat.lt_irrefl _)
theorem own_new {D : Addr} {wr : List Addr} {own : List (Addr × Obj)} (hown : ∀ q ∈ wr, ∃ o, (q, o) ∈ own) (h : ∀ p ∈ own, p.1 < D) : D ∉ wr := by
  intro hw
  obtain ⟨o, ho⟩ := hown _ hw
  exact absurd (h _ ho) (Nat.lt_irrefl _)
theorem spine_len {S : Addr → Obj → Prop} {f : Frm} {r : List Frm} (h : Spine S [] (f :: r)) : f.its.size = f.its.size := rfl
theorem bottom_same {f f' : Frm} {r : List Frm} (h : f.a = f'.a) : (bottom f r).a = (bottom f' r).a := by
  cases r with
  | nil => exact h
  | cons g r => rfl
theorem spoolC {i : Nat} {L : Addr} {g h : Heap} {m : Str → Option Value} {sp : Addr} {spI : Array Value} {spn : Nat} {ch : Addr} {chI : Array Value} {chn : Nat} {bt : Addr} {ts : Nat → Tok} {f : Frm} {r : List Frm} {fz own : List (Addr × Obj)} {wr : List Addr} {ls : List (Addr × Draw)} {T : Addr} {t₅ tt : Tok} {k e : Nat}
    (F : Fr g L h m) (N : News g L h ((f.a, listOf (f.its.push (.ref T)) (f.n + 1)) :: (T, pairO (bodyRows.getD k []) e t₅ tt) :: (sp, listOf spI spn) :: (ch, listOf chI chn) :: (r.map frObj ++ (fz ++ own)))) (hk : k < 7) (he : e < 4)
    (msp : m (Str.ofString "spool") = some (.ref sp)) (mch : m (Str.ofString "chain") = some (.ref ch)) (mbt : m (Str.ofString "bodies") = some (.ref bt)) (hbt : In fz bt (bodiesO ts))
    (hspI : spI.toList = (ls.map fun e => Value.ref e.1) ++ [.ref (bottom f r).a]) (hchI : chI.toList = ((f :: r).map fun f => Value.ref f.a).reverse)
    (hS : Spine (In fz) [] (f :: r)) (hls : ∀ e ∈ ls, Letter (In fz) e.1 e.2) (hcn : cntF (f :: r) ≤ i + 1) (hll : ls.length ≤ i)
    (hnd : (((sp, listOf spI spn) :: (ch, listOf chI chn) :: frObj f :: (r.map frObj ++ fz)).map (·.1)).Nodup)
    (hD : sp < T ∧ ch < T ∧ (frObj f).1 < T ∧ AllLt T (r.map frObj ++ (fz ++ own)))
    (hnw : ∀ p ∈ (sp, listOf spI spn) :: (ch, listOf chI chn) :: frObj f :: (r.map frObj ++ fz), p.1 ∉ wr) (hown : ∀ q ∈ wr, ∃ o, (q, o) ∈ own) :
    ∃ mu', News g L h (mu' ++ own) ∧ (∀ p ∈ mu', p.1 ∉ wr) ∧ SpoolJ (i + 1) g m mu' := by
  have hDa := allLt_mem hD.2.2.2
  have hDm : ∀ p ∈ (sp, listOf spI spn) :: (ch, listOf chI chn) :: frObj f :: (r.map frObj ++ fz), p.1 < T := by
    intro p hp
    rcases List.mem_cons.mp hp with rfl | hp
    · exact hD.1
    · rcases List.mem_cons.mp hp with rfl | hp
      · exact hD.2.1
      · rcases List.mem_cons.mp hp with rfl | hp
        · exact hD.2.2.1
        · exact hDa p (by rw [← List.append_assoc]; exact List.mem_append_left _ hp)
  have hTw : T ∉ wr := own_new hown fun p hp => hDa p (by simp [hp])
  refine ⟨(sp, listOf spI spn) :: (ch, listOf chI chn) :: frObj ⟨f.a, f.its.push (.ref T), f.n + 1, f.d.app (.tup (bodyRows.getD k []) e .nil)⟩ :: (r.map frObj ++ (T, pairO (bodyRows.getD k []) e t₅ tt) :: fz), newsSub N ?_, ?_, ?_⟩
  · intro p hp
    simp only [frObj, List.mem_cons, List.mem_append, List.cons_append, List.append_assoc] at hp ⊢
    grind
  · intro p hp
    rcases List.mem_cons.mp hp with rfl | hp
    · exact hnw _ (List.mem_cons_self ..)
    · rcases List.mem_cons.mp hp with rfl | hp
      · exact hnw _ (List.mem_cons_of_mem _ (List.mem_cons_self ..))
      · rcases List.mem_cons.mp hp with rfl | hp
        · exact hnw (frObj f) (by simp)
        · rcases List.mem_append.mp hp with hp | hp
          · exact hnw p (by simp only [List.mem_cons, List.mem_append]; exact .inr (.inr (.inr (.inl hp))))
          · rcases List.mem_cons.mp hp with rfl | hp
            · exact hTw
            · exact hnw p (by simp only [List.mem_cons, List.mem_append]; exact .inr (.inr (.inr (.inr hp))))
  have up : ∀ a o, In fz a o → In ((T, pairO (bodyRows.getD k []) e t₅ tt) :: fz) a o := fun _ _ h => List.mem_cons_of_mem _ h
  obtain ⟨⟨vs, e1, hV⟩, hok, hsh, hdp, hSr⟩ := hS
  obtain ⟨b1, b2, b3, b4⟩ := row_ok hk
  refine ⟨sp, spI, spn, ch, chI, chn, bt, ts, _, r, _, ls, msp, mch, mbt, rfl, up _ _ hbt, ?_, ?_, ⟨⟨vs ++ [.ref T], ?_, ?_⟩, ?_, ?_, ?_, ?_⟩, fun e he => (hls e he).mono up, ?_, by omega, ?_⟩
  · rw [hspI]; congr 3
    exact bottom_same rfl
  · exact hchI
  · simp only [Array.toList_push, e1, List.append_nil]
  · exact Vals_appD (hV.mono up) ⟨T, t₅, tt, [], rfl, ⟨he, List.mem_cons_self ..⟩, rfl⟩
  · exact Draw.app_ok hok ⟨b1, b2, trivial⟩
  · exact Draw.app_short hsh ⟨b3, b4, trivial⟩
  · show (ofD (f.d.app _)).dep + _ ≤ 3
    rw [Draw.app_dep]
    simp only [ofD, Gen.dep]
    omega
  · exact hSr.mono up
  · show (ofD (f.d.app _)).cnt + 1 + cntF r ≤ _
    rw [Draw.app_cnt]
    simp only [ofD, Gen.cnt]
    simp only [cntF] at hcn
    omega
  · refine nodup_new ?_ hDm hnd
    simp only [List.map_cons, List.map_append, frObj]
    exact List.perm_middle (l₁ := sp :: ch :: f.a :: (r.map frObj).map (·.1))
theorem spoolA {i : Nat} {L : Addr} {g h : Heap} {m : Str → Option Value} {sp : Addr} {spI : Array Value} {spn : Nat} {ch : Addr} {chI : Array Value} {chn : Nat} {bt : Addr} {ts : Nat → Tok} {f : Frm} {r : List Frm} {fz own : List (Addr × Obj)} {wr : List Addr} {ls : List (Addr × Draw)} {T : Addr}
    (F : Fr g L h m) (N : News g L h ((ch, listOf (chI.push (.ref T)) (chn + 1)) :: (f.a, listOf (f.its.push (.ref T)) (f.n + 1)) :: (T, listOf #[] 0) :: (sp, listOf spI spn) :: (r.map frObj ++ (fz ++ own))))
    (msp : m (Str.ofString "spool") = some (.ref sp)) (mch : m (Str.ofString "chain") = some (.ref ch)) (mbt : m (Str.ofString "bodies") = some (.ref bt)) (hbt : In fz bt (bodiesO ts))
    (hspI : spI.toList = (ls.map fun e => Value.ref e.1) ++ [.ref (bottom f r).a]) (hchI : chI.toList = ((f :: r).map fun f => Value.ref f.a).reverse) (hr : r.length ≤ 1)
    (hS : Spine (In fz) [] (f :: r)) (hls : ∀ e ∈ ls, Letter (In fz) e.1 e.2) (hcn : cntF (f :: r) ≤ i + 1) (hll : ls.length ≤ i)
    (hnd : (((sp, listOf spI spn) :: (ch, listOf chI chn) :: frObj f :: (r.map frObj ++ fz)).map (·.1)).Nodup)
    (hD : sp < T ∧ ch < T ∧ (frObj f).1 < T ∧ AllLt T (r.map frObj ++ (fz ++ own)))
    (hnw : ∀ p ∈ (sp, listOf spI spn) :: (ch, listOf chI chn) :: frObj f :: (r.map frObj ++ fz), p.1 ∉ wr) (hown : ∀ q ∈ wr, ∃ o, (q, o) ∈ own) :
    ∃ mu', News g L h (mu' ++ own) ∧ (∀ p ∈ mu', p.1 ∉ wr) ∧ SpoolJ (i + 1) g m mu' := by
  have hDa := allLt_mem hD.2.2.2
  have hDm : ∀ p ∈ (sp, listOf spI spn) :: (ch, listOf chI chn) :: frObj f :: (r.map frObj ++ fz), p.1 < T := by
    intro p hp
    rcases List.mem_cons.mp hp with rfl | hp
    · exact hD.1
    · rcases List.mem_cons.mp hp with rfl | hp
      · exact hD.2.1
      · rcases List.mem_cons.mp hp with rfl | hp
        · exact hD.2.2.1
        · exact hDa p (by rw [← List.append_assoc]; exact List.mem_append_left _ hp)
  have hTw : T ∉ wr := own_new hown fun p hp => hDa p (by simp [hp])
  refine ⟨(sp, listOf spI spn) :: (ch, listOf (chI.push (.ref T)) (chn + 1)) :: frObj ⟨T, #[], 0, .nil⟩ :: ((⟨f.a, f.its.push (.ref T), f.n + 1, f.d⟩ :: r).map frObj ++ fz), newsSub N ?_, ?_, ?_⟩
  · intro p hp
    simp only [frObj, List.map_cons, List.mem_cons, List.mem_append, List.cons_append, List.append_assoc] at hp ⊢
    grind
  · intro p hp
    rcases List.mem_cons.mp hp with rfl | hp
    · exact hnw _ (List.mem_cons_self ..)
    · rcases List.mem_cons.mp hp with rfl | hp
      · exact (hnw (ch, listOf chI chn) (List.mem_cons_of_mem _ (List.mem_cons_self ..)) : ch ∉ wr)
      · rcases List.mem_cons.mp hp with rfl | hp
        · exact hTw
        · rcases List.mem_cons.mp hp with rfl | hp
          · exact hnw (frObj f) (by simp)
          · exact hnw p (by simp only [List.mem_cons]; exact .inr (.inr (.inr hp)))
  obtain ⟨⟨vs, e1, hV⟩, hok, hsh, hdp, hSr⟩ := hS
  refine ⟨sp, spI, spn, ch, _, _, bt, ts, _, _, _, ls, msp, mch, mbt, rfl, hbt, ?_, ?_, ⟨⟨[], rfl, rfl⟩, trivial, trivial, ?_, ⟨vs, ?_, hV⟩, hok, hsh, hdp, hSr⟩, hls, ?_, by omega, ?_⟩
  · rw [hspI]; congr 3
    exact bottom_same rfl
  · rw [Array.toList_push, hchI]; simp
  · show 0 + _ ≤ 3
    simp only [List.length_cons]
    omega
  · simp only [Array.toList_push, e1, List.append_nil]
  · simp only [cntF, ofD, Gen.cnt] at hcn ⊢
    omega
  · refine nodup_new ?_ hDm hnd
    simp only [List.map_cons, List.map_append, frObj, List.cons_append]
    exact List.perm_middle (l₁ := [sp, ch])
theorem pop_hd {g : Heap} {L D : Addr} {m : Str → Option Value} {rest : List (Addr × Obj)} {its : Array Value} {n : Nat} {v : Value} {Q : Value → Shared → Prop} (F : Fr g L s.heap m) (N : News g L s.heap ((D, listOf (its.push v) n) :: rest)) (hne : ∀ p ∈ rest, p.1 ≠ D) (hsz : its.size ≤ 1000)
    (h : ∀ h', Fr g L h' m → News g L h' ((D, listOf its (n + 1)) :: rest) → Q v { s with heap := h' }) : wpAny (model PySem.Challenge.rw_sn0117_01.row.prog w) A (call (.builtin "list.pop") [.ref D]) Q E s := by
  have z := N (D, listOf (its.push v) n) (List.mem_cons_self ..)
  refine Copied.pop_at z.1 (by simp) (fun h' hs hg => h h' (F.change hs z.2.1 z.2.2) ?_) (by simp [sizeLine]; omega)
  refine news_set (pre := []) N (fun _ hp => nomatch hp) hne hs ?_
  rw [hg, Array.pop_push]
theorem method_pop {D : Addr} {its : Array Value} {n : Nat} {pl : Sem Bool} {Q : Value × List Value → Shared → Prop} (ho : s.heap.get? D = some (listOf its n)) (h : Q (.builtin "list.pop", [.ref D]) s) :
    wpAny (model PySem.Challenge.rw_sn0117_01.row.prog w) A (getMethod (.ref D) (Str.ofString "pop") pl) Q E s := Copied.getMethod_pop_at ho rfl rfl h
theorem spoolB1 {i : Nat} {L : Addr} {g h : Heap} {m : Str → Option Value} {sp : Addr} {spI : Array Value} {spn : Nat} {ch : Addr} {chI : Array Value} {chn : Nat} {bt : Addr} {ts : Nat → Tok} {f : Frm} {fz own : List (Addr × Obj)} {wr : List Addr} {ls : List (Addr × Draw)} {T : Addr} {c1 c2 : Nat}
    (F : Fr g L h m) (N : News g L h ((ch, listOf (#[].push (.ref T)) c1) :: (sp, listOf (spI.push (.ref T)) c2) :: (T, listOf #[] 0) :: frObj f :: (fz ++ own)))
    (msp : m (Str.ofString "spool") = some (.ref sp)) (mch : m (Str.ofString "chain") = some (.ref ch)) (mbt : m (Str.ofString "bodies") = some (.ref bt)) (hbt : In fz bt (bodiesO ts))
    (hspI : spI.toList = (ls.map fun e => Value.ref e.1) ++ [.ref f.a]) (hi : i ≤ 14)
    (hS : Spine (In fz) [] [f]) (hls : ∀ e ∈ ls, Letter (In fz) e.1 e.2) (hcn : cntF [f] ≤ i + 1) (hll : ls.length ≤ i)
    (hnd : (((sp, listOf spI spn) :: (ch, listOf chI chn) :: frObj f :: fz).map (·.1)).Nodup)
    (hD : ch < T ∧ sp < T ∧ (frObj f).1 < T ∧ AllLt T (fz ++ own))
    (hnw : ∀ p ∈ (sp, listOf spI spn) :: (ch, listOf chI chn) :: frObj f :: fz, p.1 ∉ wr) (hown : ∀ q ∈ wr, ∃ o, (q, o) ∈ own) :
    ∃ mu', News g L h (mu' ++ own) ∧ (∀ p ∈ mu', p.1 ∉ wr) ∧ SpoolJ (i + 1) g m mu' := by
  have hDa := allLt_mem hD.2.2.2
  have hDm : ∀ p ∈ (sp, listOf spI spn) :: (ch, listOf chI chn) :: frObj f :: fz, p.1 < T := by
    intro p hp
    rcases List.mem_cons.mp hp with rfl | hp
    · exact hD.2.1
    · rcases List.mem_cons.mp hp with rfl | hp
      · exact hD.1
      · rcases List.mem_cons.mp hp with rfl | hp
        · exact hD.2.2.1
        · exact hDa p (List.mem_append_left _ hp)
  have hTw : T ∉ wr := own_new hown fun p hp => hDa p (by simp [hp])
  refine ⟨(sp, listOf (spI.push (.ref T)) c2) :: (ch, listOf (#[].push (.ref T)) c1) :: frObj ⟨T, #[], 0, .nil⟩ :: (([] : List Frm).map frObj ++ (frObj f :: fz)), newsSub N ?_, ?_, ?_⟩
  · intro p hp
    simp only [frObj, List.map_nil, List.nil_append, List.mem_cons, List.mem_append, List.cons_append, List.append_assoc] at hp ⊢
    grind
  · intro p hp
    rcases List.mem_cons.mp hp with rfl | hp
    · exact (hnw (sp, listOf spI spn) (List.mem_cons_self ..) : sp ∉ wr)
    · rcases List.mem_cons.mp hp with rfl | hp
      · exact (hnw (ch, listOf chI chn) (List.mem_cons_of_mem _ (List.mem_cons_self ..)) : ch ∉ wr)
      · rcases List.mem_cons.mp hp with rfl | hp
        · exact hTw
        · exact hnw p (List.mem_cons_of_mem _ (List.mem_cons_of_mem _ hp))
  have up : ∀ a o, In fz a o → In (frObj f :: fz) a o := fun _ _ h => List.mem_cons_of_mem _ h
  obtain ⟨⟨vs, e1, hV⟩, hok, hsh, hdp, hSr⟩ := hS
  refine ⟨sp, _, _, ch, _, _, bt, ts, _, _, _, ls ++ [(f.a, f.d)], msp, mch, mbt, rfl, up _ _ hbt, ?_, rfl, ⟨⟨[], rfl, rfl⟩, trivial, trivial, ?_, trivial⟩, ?_, ?_, ?_, ?_⟩
  · rw [Array.toList_push, hspI, List.map_append]
    rfl
  · show 0 + (0 + 1) ≤ 3
    omega
  · intro e he
    rcases List.mem_append.mp he with he | he
    · exact (hls e he).mono up
    · rw [List.mem_singleton.mp he]
      refine ⟨⟨f.its, f.n, List.mem_cons_self .., ?_⟩, hok, hsh, ?_, ?_⟩
      · rw [e1, List.append_nil]; exact hV.mono up
      · simp only [List.length_nil] at hdp
        show (ofD f.d).dep ≤ 2
        omega
      · simp only [cntF] at hcn
        show (ofD f.d).cnt ≤ 14
        omega
  · simp only [cntF, ofD, Gen.cnt]
    omega
  · rw [List.length_append, List.length_singleton]; omega
  · refine nodup_new ?_ hDm hnd
    simp only [List.map_cons, List.map_append, frObj, List.map_nil, List.nil_append]
    exact List.perm_middle (l₁ := [sp, ch])
theorem spoolB2 {i : Nat} {L : Addr} {g h : Heap} {m : Str → Option Value} {sp : Addr} {spI : Array Value} {spn : Nat} {ch : Addr} {chI chP : Array Value} {chn c1 : Nat} {bt : Addr} {ts : Nat → Tok} {f f2 : Frm} {r : List Frm} {fz own : List (Addr × Obj)} {wr : List Addr} {ls : List (Addr × Draw)}
    (F : Fr g L h m) (N : News g L h ((ch, listOf chP c1) :: (sp, listOf spI spn) :: frObj f :: ((f2 :: r).map frObj ++ (fz ++ own))))
    (msp : m (Str.ofString "spool") = some (.ref sp)) (mch : m (Str.ofString "chain") = some (.ref ch)) (mbt : m (Str.ofString "bodies") = some (.ref bt)) (hbt : In fz bt (bodiesO ts))
    (hspI : spI.toList = (ls.map fun e => Value.ref e.1) ++ [.ref (bottom f (f2 :: r)).a]) (hchP : chP.toList = ((f2 :: r).map fun f => Value.ref f.a).reverse)
    (hS : Spine (In fz) [] (f :: f2 :: r)) (hls : ∀ e ∈ ls, Letter (In fz) e.1 e.2) (hcn : cntF (f :: f2 :: r) ≤ i + 1) (hll : ls.length ≤ i)
    (hnd : (((sp, listOf spI spn) :: (ch, listOf chI chn) :: frObj f :: ((f2 :: r).map frObj ++ fz)).map (·.1)).Nodup)
    (hnw : ∀ p ∈ (sp, listOf spI spn) :: (ch, listOf chI chn) :: frObj f :: ((f2 :: r).map frObj ++ fz), p.1 ∉ wr) :
    ∃ mu', News g L h (mu' ++ own) ∧ (∀ p ∈ mu', p.1 ∉ wr) ∧ SpoolJ (i + 1) g m mu' := by
  refine ⟨(sp, listOf spI spn) :: (ch, listOf chP c1) :: frObj ⟨f2.a, f2.its, f2.n, f2.d.app (.sub f.d .nil)⟩ :: (r.map frObj ++ (frObj f :: fz)), newsSub N ?_, ?_, ?_⟩
  · intro p hp
    simp only [frObj, List.map_cons, List.mem_cons, List.mem_append, List.cons_append, List.append_assoc] at hp ⊢
    grind
  · intro p hp
    rcases List.mem_cons.mp hp with rfl | hp
    · exact hnw _ (List.mem_cons_self ..)
    · rcases List.mem_cons.mp hp with rfl | hp
      · exact (hnw (ch, listOf chI chn) (List.mem_cons_of_mem _ (List.mem_cons_self ..)) : ch ∉ wr)
      · refine hnw p ?_
        simp only [frObj, List.map_cons, List.mem_cons, List.mem_append, List.cons_append] at hp ⊢
        grind
  have up : ∀ a o, In fz a o → In (frObj f :: fz) a o := fun _ _ h => List.mem_cons_of_mem _ h
  obtain ⟨⟨vs, e1, hV⟩, hok, hsh, hdp, ⟨vs2, e2, hV2⟩, hok2, hsh2, hdp2, hSr⟩ := hS
  refine ⟨sp, _, _, ch, _, _, bt, ts, _, _, _, ls, msp, mch, mbt, rfl, up _ _ hbt, ?_, ?_, ⟨⟨f2.its.toList, by simp, ?_⟩, ?_, ?_, ?_, hSr.mono up⟩, fun e he => (hls e he).mono up, ?_, by omega, ?_⟩
  · rw [hspI]; congr 3
    exact bottom_same (f := f2) rfl
  · exact hchP
  · rw [e2]
    refine Vals_appD (hV2.mono up) ⟨f.a, f.its, f.n, [], rfl, List.mem_cons_self .., ?_, rfl⟩
    rw [e1, List.append_nil]; exact hV.mono up
  · exact Draw.app_ok hok2 ⟨hok, trivial⟩
  · exact Draw.app_short hsh2 ⟨hsh, trivial⟩
  · show (ofD (f2.d.app _)).dep + _ ≤ 3
    rw [Draw.app_dep]
    simp only [ofD, Gen.dep, List.length_cons] at hdp hdp2 ⊢
    omega
  · show (ofD (f2.d.app _)).cnt + 1 + cntF r ≤ _
    rw [Draw.app_cnt]
    simp only [ofD, Gen.cnt]
    simp only [cntF] at hcn
    omega
  · refine List.Perm.nodup_iff ?_ |>.mpr hnd
    simp only [List.map_cons, List.map_append, frObj, List.cons_append]
    exact ((List.perm_middle (l₁ := f2.a :: (r.map frObj).map (·.1))).cons _).cons _

theorem turnSpool {body : List Stmt} {scope : Scope} (hF : FnAt (hd.heap_39 w.params) 74 body scope) {L fa : Addr} {ccd : Value} {g₀ g h : Heap} {m : Str → Option Value} {mu own : List (Addr × Obj)} {wr : List Addr} {s₁ : Shared}
    {Q : Flow → Shared → Prop} (B₀ : Base w g₀) (kg₀ : Keep g₀ g) {its : Array Value} {ns : List Int} (hi : IntsAre its.toList ns) {i : Nat} {v : Value} (hv : its[i]? = some v) (hi14 : i < 14)
    (hJ : SpoolJ i g m mu) (hnw : ∀ p ∈ mu, p.1 ∉ wr) (hown : ∀ q ∈ wr, ∃ o, (q, o) ∈ own) (hsub : ∀ p ∈ own, p.1 ∈ wr)
    (F : Fr g L h (fun z => if z = Str.ofString "x" then some v else m z)) (N : News g L h (mu ++ own)) (tks : Nat) :
    wpAny (model PySem.Challenge.rw_sn0117_01.row.prog w) A (execs (forBody (nth body 5)) (envOf (Str.ofString "_law_spool") scope L fa ccd)) (Turn L own wr (SpoolJ (i + 1)) { s₁ with heap := h, toks := tks } Q g) (fun _ _ => False) { s₁ with heap := h, toks := tks } := by
  have hF' : FnAt (hd.heap_39 w.params) 74 _ _ := ⟨_, _, _, _, by k_is, rfl, rfl⟩
  obtain ⟨rfl, rfl⟩ := FnAt.inj hF hF'
  clear hF hF'
  dsimp only [nth, forBody]
  obtain ⟨sp, spI, spn, ch, chI, chn, bt, ts, f, r, fz, ls, msp, mch, mbt, rfl, hbt, hspI, hchI, hS, hls, hcn, hll, hnd⟩ := hJ
  obtain ⟨X', p, loose, mean, mg, mb, T⟩ := id (B₀.keeps kg₀)
  simp only [List.cons_append, List.append_assoc] at N
  obtain ⟨x, u, rfl⟩ := ints_item hi hv
  have hsp : h.get? sp = some (listOf spI spn) := (newsHd N).1
  have hch : h.get? ch = some (listOf chI chn) := (newsHd (newsTl N)).1
  have hf : h.get? f.a = some (listOf f.its f.n) := (newsHd (newsTl (newsTl N))).1
  obtain ⟨chP, rfl, hchP⟩ := push_of (l := (r.map fun f => Value.ref f.a).reverse) (v := .ref f.a) (by simpa using hchI)
  obtain ⟨spP, rfl, hspP⟩ := push_of hspI
  have hchs : chP.size = r.length := by have := congrArg List.length hchP; simpa using this
  have hsps : spP.size = ls.length := by have := congrArg List.length hspP; simpa using this
  have hr2 : r.length ≤ 2 := by have := hS.2.2.2.1; omega
  have hfs : f.its.size ≤ 14 := by
    obtain ⟨⟨vs, e, hV⟩, -⟩ := hS
    have h1 := hV.length
    have h2 := congrArg List.length e
    simp only [List.append_nil, Array.length_toList] at h2
    simp only [cntF] at hcn
    omega
  have asp := apart hnd
  have ach : ∀ p ∈ (sp, listOf (spP.push (.ref (bottom f r).a)) spn) :: frObj f :: (r.map frObj ++ fz), p.1 ≠ ch := by
    intro p hp
    rcases List.mem_cons.mp hp with rfl | hp
    · exact (asp (ch, _) (List.mem_cons_self ..)).symm
    · exact apart (List.nodup_cons.mp hnd).2 p hp
  have af : ∀ p ∈ (sp, listOf (spP.push (.ref (bottom f r).a)) spn) :: (ch, listOf (chP.push (.ref f.a)) chn) :: (r.map frObj ++ fz), p.1 ≠ f.a := by
    intro p hp
    rcases List.mem_cons.mp hp with rfl | hp
    · exact (asp (frObj f) (by simp)).symm
    · rcases List.mem_cons.mp hp with rfl | hp
      · exact (ach (frObj f) (by simp)).symm
      · exact apart (List.nodup_cons.mp (List.nodup_cons.mp hnd).2).2 p hp
  have hown' : ∀ q ∈ (sp, listOf (spP.push (.ref (bottom f r).a)) spn) :: (ch, listOf (chP.push (.ref f.a)) chn) :: frObj f :: (r.map frObj ++ fz), ∀ p ∈ own, p.1 ≠ q.1 := fun q hq => off_own hsub hnw hq
  obtain ⟨k7, hk7, hke⟩ : ∃ k : Nat, k < 7 ∧ ((x.fmod 140).fdiv 5).fmod 7 = (k : Int) := by
    refine ⟨(((x.fmod 140).fdiv 5).fmod 7).toNat, ?_, ?_⟩
    · have := Int.fmod_lt_of_pos ((x.fmod 140).fdiv 5) (b := 7) (by omega)
      omega
    · have := Int.fmod_nonneg_of_pos ((x.fmod 140).fdiv 5) (b := 7) (by omega)
      omega
  obtain ⟨e4, he4, hee⟩ : ∃ k : Nat, k < 4 ∧ (((x.fmod 140).fdiv 5).fdiv 7).fmod 4 = (k : Int) := by
    refine ⟨((((x.fmod 140).fdiv 5).fdiv 7).fmod 4).toNat, ?_, ?_⟩
    · have := Int.fmod_lt_of_pos (((x.fmod 140).fdiv 5).fdiv 7) (b := 4) (by omega)
      omega
    · have := Int.fmod_nonneg_of_pos (((x.fmod 140).fdiv 5).fdiv 7) (b := 4) (by omega)
      omega
  k_steps
  · unfold Halt
    (with_reducible rename Fr _ _ _ _ => F₁)
    (with_reducible rename News _ _ _ _ => N₁)
    refine len_lst (isList_of (newsHd (newsTl N₁)).1) (by rw [Array.size_push]; omega) fun t₁ tk₁ => ?_
    rw [Array.size_push, hchs]
    k_steps
    · unfold Halt
      (with_reducible rename Fr _ _ _ _ => F₂)
      (with_reducible rename News _ _ _ _ => N₂)
      (with_reducible rename (_ ∧ _) => hD)
      (with_reducible rename ((_ : Int) < _) => hr1)
      refine item_last (isList_of (newsHd (newsTl (newsTl N₂))).1) (by omega) ?_
      k_steps
      unfold Halt
      refine method_append (newsHd (newsTl (newsTl (newsTl N₂)))).1 ?_
      k_steps
      unfold Halt
      refine append_hd F₂ (front3 N₂) ?_ (by simp [sizeLine]; omega) ?_
      · intro p hp
        rcases List.mem_cons.mp hp with rfl | hp
        · exact Nat.ne_of_gt hD.2.2.1
        · rcases List.mem_cons.mp hp with rfl | hp
          · exact af _ (by simp)
          · rcases List.mem_cons.mp hp with rfl | hp
            · exact af _ (by simp)
            · rw [← List.append_assoc] at hp
              exact (List.mem_append.mp hp).elim (fun hp => af p (by simp only [List.mem_cons]; exact .inr (.inr hp))) fun hp => hown' (frObj f) (by simp) p hp
      intro h₆ F₆ N₆
      k_steps
      unfold Halt
      refine method_append (newsHd (newsTl (newsTl (newsTl N₆)))).1 ?_
      k_steps
      unfold Halt
      refine append_hd F₆ (front3 N₆) ?_ (by simp [sizeLine]; omega) ?_
      · intro p hp
        rcases List.mem_cons.mp hp with rfl | hp
        · exact ach (frObj f) (by simp)
        · rcases List.mem_cons.mp hp with rfl | hp
          · exact Nat.ne_of_gt hD.2.1
          · rcases List.mem_cons.mp hp with rfl | hp
            · exact ach _ (by simp)
            · rw [← List.append_assoc] at hp
              exact (List.mem_append.mp hp).elim (fun hp => ach p (by simp only [List.mem_cons]; exact .inr (.inr hp))) fun hp => hown' (ch, listOf (chP.push (.ref f.a)) chn) (by simp) p hp
      intro h₇ F₇ N₇
      k_steps
      obtain ⟨mu', n1, n2, n3⟩ := spoolA F₇ N₇ (look_ne (by decide +kernel) (look_ne (by decide +kernel) (look_ne (by decide +kernel) msp))) (look_ne (by decide +kernel) (look_ne (by decide +kernel) (look_ne (by decide +kernel) mch))) (look_ne (by decide +kernel) (look_ne (by decide +kernel) (look_ne (by decide +kernel) mbt))) hbt hspI hchI (by omega) hS hls hcn hll hnd hD hnw hown
      exact Turn.next (Keep.refl _) F₇ n1 n2 n3
    · exfalso
      omega
    · (
        unfold Halt
        (with_reducible rename Fr _ _ _ _ => F₂)
        (with_reducible rename News _ _ _ _ => N₂)
        refine item_last (isList_of (newsHd (newsTl N₂)).1) (by omega) ?_
        k_steps
        unfold Halt
        refine method_append (newsHd (newsTl (newsTl N₂))).1 ?_
        k_steps
        unfold Halt
        rw [hke]
        refine pick7 hk7 (N₂ (bt, bodiesO ts) (by simp; exact .inr (.inr (.inr (.inr (.inl hbt)))))).1 fun t₅ => ?_
        k_steps
        unfold Halt
        (with_reducible rename Fr _ _ _ _ => F₃)
        (with_reducible rename News _ _ _ _ => N₃)
        (with_reducible rename (_ ∧ _) => hD)
        rw [hee] at N₃
        refine append_hd F₃ (front3 N₃) ?_ (by simp [sizeLine]; omega) ?_
        · intro p hp
          rcases List.mem_cons.mp hp with rfl | hp
          · exact Nat.ne_of_gt hD.2.2.1
          · rcases List.mem_cons.mp hp with rfl | hp
            · exact af _ (by simp)
            · rcases List.mem_cons.mp hp with rfl | hp
              · exact af _ (by simp)
              · rw [← List.append_assoc] at hp
                exact (List.mem_append.mp hp).elim (fun hp => af p (by simp only [List.mem_cons]; exact .inr (.inr hp))) fun hp => hown' (frObj f) (by simp) p hp
        intro h₆ F₆ N₆
        k_steps
        obtain ⟨mu', n1, n2, n3⟩ := spoolC F₆ N₆ hk7 he4 (look_ne (by decide +kernel) (look_ne (by decide +kernel) msp)) (look_ne (by decide +kernel) (look_ne (by decide +kernel) mch)) (look_ne (by decide +kernel) (look_ne (by decide +kernel) mbt)) hbt hspI hchI hS hls hcn hll hnd hD hnw hown
        exact Turn.next (Keep.refl _) F₆ n1 n2 n3)
  · unfold Halt
    (with_reducible rename Fr _ _ _ _ => F₁)
    (with_reducible rename News _ _ _ _ => N₁)
    refine method_pop (newsHd (newsTl N₁)).1 ?_
    k_steps
    show wpAny _ _ (call (.builtin "list.pop") [.ref ch]) _ _ _
    refine pop_hd F₁ (swap2 N₁) ?_ (by omega) ?_
    · intro p hp
      rcases List.mem_cons.mp hp with rfl | hp
      · exact ach _ (by simp)
      · rcases List.mem_cons.mp hp with rfl | hp
        · exact ach (frObj f) (by simp)
        · rw [← List.append_assoc] at hp
          exact (List.mem_append.mp hp).elim (fun hp => ach p (by simp only [List.mem_cons]; exact .inr (.inr hp))) fun hp => hown' (ch, listOf (chP.push (.ref f.a)) chn) (by simp) p hp
    intro h₂ F₂ N₂
    clear F₁ N₁
    k_steps
    unfold Halt
    refine wpAny_truthy_list (isList_of (newsHd N₂).1) (by omega) ?_
    rcases r with _ | ⟨f2, r⟩
    · have hc0 : chP = #[] := by simpa using hchP
      subst hc0
      k_steps
      unfold Halt
      refine method_append (newsHd (newsTl N₂)).1 ?_
      k_steps
      unfold Halt
      (with_reducible rename Fr _ _ _ _ => F₃)
      (with_reducible rename News _ _ _ _ => N₃)
      (with_reducible rename (_ ∧ _) => hD)
      refine append_hd F₃ (front2 N₃) ?_ (by simp [sizeLine]; omega) ?_
      · intro p hp
        rcases List.mem_cons.mp hp with rfl | hp
        · exact Nat.ne_of_gt hD.2.1
        · rcases List.mem_cons.mp hp with rfl | hp
          · exact asp (ch, listOf (#[].push (.ref f.a)) chn) (by simp)
          · rcases List.mem_cons.mp hp with rfl | hp
            · exact asp (frObj f) (by simp)
            · rw [← List.append_assoc] at hp
              exact (List.mem_append.mp hp).elim (fun hp => asp p (by simp only [List.mem_cons]; exact .inr (.inr hp))) fun hp => hown' (sp, listOf (spP.push (.ref (bottom f []).a)) spn) (by simp) p hp
      intro h₄ F₄ N₄
      clear F₃ N₃
      k_steps
      unfold Halt
      refine method_append (newsHd (newsTl (newsTl N₄))).1 ?_
      k_steps
      unfold Halt
      (with_reducible rename Fr _ _ _ _ => F₅)
      (with_reducible rename News _ _ _ _ => N₅)
      refine item_last (isList_of (newsHd N₅).1) (by rw [Array.size_push]; omega) ?_
      k_steps
      unfold Halt
      refine append_hd F₅ (front2 N₅) ?_ (by simp [sizeLine]) ?_
      · intro p hp
        rcases List.mem_cons.mp hp with rfl | hp
        · exact ach (sp, listOf (spP.push (.ref (bottom f []).a)) spn) (by simp)
        · rcases List.mem_cons.mp hp with rfl | hp
          · exact Nat.ne_of_gt hD.1
          · rcases List.mem_cons.mp hp with rfl | hp
            · exact ach (frObj f) (by simp)
            · rw [← List.append_assoc] at hp
              exact (List.mem_append.mp hp).elim (fun hp => ach p (by simp only [List.mem_cons]; exact .inr (.inr hp))) fun hp => hown' (ch, listOf (#[].push (.ref f.a)) chn) (by simp) p hp
      intro h₆ F₆ N₆
      clear F₅ N₅
      k_steps
      obtain ⟨mu', n1, n2, n3⟩ := spoolB1 (fz := fz) (own := own) F₆ N₆ (look_ne (by decide +kernel) (look_ne (by decide +kernel) msp)) (look_ne (by decide +kernel) (look_ne (by decide +kernel) mch)) (look_ne (by decide +kernel) (look_ne (by decide +kernel) mbt)) hbt hspI (by omega) hS hls hcn hll hnd hD hnw hown
      exact Turn.next (Keep.refl _) F₆ n1 n2 n3
    · have hc0 : chP.isEmpty = false := by
        rw [Array.isEmpty_eq_false_iff]
        intro h
        rw [h] at hchs
        simp at hchs
      rw [hc0]
      k_steps
      obtain ⟨mu', n1, n2, n3⟩ := spoolB2 F₂ N₂ (look_ne (by decide +kernel) (look_ne (by decide +kernel) msp)) (look_ne (by decide +kernel) (look_ne (by decide +kernel) mch)) (look_ne (by decide +kernel) (look_ne (by decide +kernel) mbt)) hbt hspI hchP hS hls hcn hll hnd hnw
      exact Turn.next (Keep.refl _) F₂ n1 n2 n3
  · (
      unfold Halt
      (with_reducible rename Fr _ _ _ _ => F₂)
      (with_reducible rename News _ _ _ _ => N₂)
      refine item_last (isList_of (newsHd (newsTl N₂)).1) (by omega) ?_
      k_steps
      unfold Halt
      refine method_append (newsHd (newsTl (newsTl N₂))).1 ?_
      k_steps
      unfold Halt
      rw [hke]
      refine pick7 hk7 (N₂ (bt, bodiesO ts) (by simp; exact .inr (.inr (.inr (.inr (.inl hbt)))))).1 fun t₅ => ?_
      k_steps
      unfold Halt
      (with_reducible rename Fr _ _ _ _ => F₃)
      (with_reducible rename News _ _ _ _ => N₃)
      (with_reducible rename (_ ∧ _) => hD)
      rw [hee] at N₃
      refine append_hd F₃ (front3 N₃) ?_ (by simp [sizeLine]; omega) ?_
      · intro p hp
        rcases List.mem_cons.mp hp with rfl | hp
        · exact Nat.ne_of_gt hD.2.2.1
        · rcases List.mem_cons.mp hp with rfl | hp
          · exact af _ (by simp)
          · rcases List.mem_cons.mp hp with rfl | hp
            · exact af _ (by simp)
            · rw [← List.append_assoc] at hp
              exact (List.mem_append.mp hp).elim (fun hp => af p (by simp only [List.mem_cons]; exact .inr (.inr hp))) fun hp => hown' (frObj f) (by simp) p hp
      intro h₆ F₆ N₆
      k_steps
      obtain ⟨mu', n1, n2, n3⟩ := spoolC F₆ N₆ hk7 he4 (look_ne (by decide +kernel) (look_ne (by decide +kernel) msp)) (look_ne (by decide +kernel) (look_ne (by decide +kernel) mch)) (look_ne (by decide +kernel) (look_ne (by decide +kernel) mbt)) hbt hspI hchI hS hls hcn hll hnd hD hnw hown
      exact Turn.next (Keep.refl _) F₆ n1 n2 n3)

theorem close {S : Addr → Obj → Prop} : ∀ {r : List Frm} {f : Frm}, Spine S [] (f :: r) → (∀ p ∈ f :: r, S p.a (listOf p.its p.n)) → cntF (f :: r) ≤ 15 → ∃ d, Letter S (bottom f r).a d
  | [], f, ⟨⟨vs, e1, hV⟩, hok, hsh, hdp, _⟩, hm, hc => by
    refine ⟨f.d, ⟨f.its, f.n, hm f (List.mem_cons_self ..), ?_⟩, hok, hsh, ?_, ?_⟩
    · rw [e1, List.append_nil]; exact hV
    · simp only [List.length_nil] at hdp; omega
    · simp only [cntF] at hc; omega
  | f2 :: r, f, ⟨⟨vs, e1, hV⟩, hok, hsh, hdp, ⟨vs2, e2, hV2⟩, hok2, hsh2, hdp2, hSr⟩, hm, hc => by
    have hS : Spine S [] (⟨f2.a, f2.its, f2.n, f2.d.app (.sub f.d .nil)⟩ :: r) := by
      refine ⟨⟨f2.its.toList, by simp, ?_⟩, Draw.app_ok hok2 ⟨hok, trivial⟩, Draw.app_short hsh2 ⟨hsh, trivial⟩, ?_, hSr⟩
      · rw [e2]
        refine Vals_appD hV2 ⟨f.a, f.its, f.n, [], rfl, hm f (List.mem_cons_self ..), ?_, rfl⟩
        rw [e1, List.append_nil]; exact hV
      · show (ofD (f2.d.app _)).dep + _ ≤ 3
        rw [Draw.app_dep]
        simp only [ofD, Gen.dep, List.length_cons] at hdp hdp2 ⊢
        omega
    have hcc : cntF (⟨f2.a, f2.its, f2.n, f2.d.app (.sub f.d .nil)⟩ :: r) ≤ 15 := by
      show (ofD (f2.d.app _)).cnt + 1 + cntF r ≤ _
      rw [Draw.app_cnt]
      simp only [ofD, Gen.cnt]
      simp only [cntF] at hc
      omega
    obtain ⟨d, hd'⟩ := close hS (fun p hp => by
      rcases List.mem_cons.mp hp with rfl | hp
      · exact hm f2 (by simp)
      · exact hm p (by simp [hp])) hcc
    refine ⟨d, ?_⟩
    rw [show (bottom f (f2 :: r)).a = (bottom f2 r).a from rfl, bottom_same (f := f2) (f' := ⟨f2.a, f2.its, f2.n, f2.d.app (.sub f.d .nil)⟩) rfl]
    exact hd'

theorem spoolStart {L : Addr} {g h : Heap} {m : Str → Option Value} {ch sp D bt sa : Addr} {t0 t1 t2 t3 t4 t5 t6 : Tok} {vs' : Array Value} {n : Nat}
    (_ : Fr g L h m) (N : News g L h [(ch, listOf #[.ref D] 0), (sp, listOf #[.ref D] 0), (D, listOf #[] 0), (bt, { cls := .type "tuple", data := .seq #[.str (Str.ofString ".") t0, .str (Str.ofString "a") t1, .str (Str.ofString "") t2, .str (Str.ofString ".>") t3, .str (Str.ofString "\x85.") t4, .str (Str.ofString "..") t5, .str (Str.ofString "\\n\x0b>") t6] }), (sa, listOf vs' n)])
    (msp : m (Str.ofString "spool") = some (.ref sp)) (mch : m (Str.ofString "chain") = some (.ref ch)) (mbt : m (Str.ofString "bodies") = some (.ref bt))
    (h1 : sa < bt) (h2 : bt < D ∧ sa < D) (h3 : D < sp ∧ bt < sp ∧ sa < sp) (h4 : sp < ch ∧ D < ch ∧ bt < ch ∧ sa < ch) :
    ∃ mu, News g L h mu ∧ (∀ p ∈ mu, p.1 ≠ sa) ∧ SpoolJ 0 g m mu := by
  obtain ⟨ts, e⟩ : ∃ ts, ({ cls := .type "tuple", data := .seq #[.str (Str.ofString ".") t0, .str (Str.ofString "a") t1, .str (Str.ofString "") t2, .str (Str.ofString ".>") t3, .str (Str.ofString "\x85.") t4, .str (Str.ofString "..") t5, .str (Str.ofString "\\n\x0b>") t6] } : Obj) = bodiesO ts := by
    refine ⟨fun k => match k with | 0 => t0 | 1 => t1 | 2 => t2 | 3 => t3 | 4 => t4 | 5 => t5 | _ => t6, ?_⟩
    rw [show Str.ofString "." = ⟨#[46]⟩ by decide +kernel, show Str.ofString "a" = ⟨#[97]⟩ by decide +kernel, show Str.ofString "" = ⟨#[]⟩ by decide +kernel, show Str.ofString ".>" = ⟨#[46, 62]⟩ by decide +kernel, show Str.ofString "\x85." = ⟨#[133, 46]⟩ by decide +kernel, show Str.ofString ".." = ⟨#[46, 46]⟩ by decide +kernel, show Str.ofString "\\n\x0b>" = ⟨#[92, 110, 11, 62]⟩ by decide +kernel]
    rfl
  rw [e] at N
  refine ⟨(sp, listOf #[.ref D] 0) :: (ch, listOf #[.ref D] 0) :: frObj ⟨D, #[], 0, .nil⟩ :: (([] : List Frm).map frObj ++ [(bt, bodiesO ts)]), newsSub N ?_, ?_, ⟨sp, _, _, ch, _, _, bt, ts, _, [], _, [], msp, mch, mbt, rfl, List.mem_singleton.mpr rfl, rfl, rfl, ⟨⟨[], rfl, rfl⟩, trivial, trivial, (show 0 + (0 + 1) ≤ 3 by omega), trivial⟩, fun _ h => (nomatch h), Nat.le_refl _, Nat.le_refl _, ?_⟩⟩
  · intro p hp
    simp only [frObj, List.map_nil, List.nil_append, List.mem_cons, List.mem_append, List.cons_append, List.append_assoc] at hp ⊢
    grind
  · intro p hp
    simp only [frObj, List.map_nil, List.nil_append, List.mem_cons, List.not_mem_nil, or_false] at hp
    rcases hp with rfl | rfl | rfl | rfl
    · exact Nat.ne_of_gt h3.2.2
    · exact Nat.ne_of_gt h4.2.2.2
    · exact Nat.ne_of_gt h2.2
    · exact Nat.ne_of_gt h1
  · simp only [frObj, List.map_nil, List.nil_append, List.map_cons, List.nodup_cons, List.mem_cons, List.not_mem_nil, or_false, not_or, not_false_eq_true, List.nodup_nil, and_true]
    exact ⟨⟨Nat.ne_of_lt h4.1, Nat.ne_of_gt h3.1, Nat.ne_of_gt h3.2.1⟩, ⟨Nat.ne_of_gt h4.2.1, Nat.ne_of_gt h4.2.2.1⟩, Nat.ne_of_gt h2.1⟩

theorem spool_spec (B : Base w s.heap) (hh : A.handled = none) (hr : A.depth < recursionLimit) (l : Addr) (vs : Array Value) (ns : List Int) (hl : s.heap.IsList l vs) (hi : IntsAre vs.toList ns) (hn : ns.length ≤ 63)
    (hq : ∀ h' tk fz sp spI spn (ls : List (Addr × Draw)), Keep s.heap h' → New s.heap h' fz → In fz sp (listOf spI spn) → spI.toList = ls.map (fun e => Value.ref e.1) → (∀ e ∈ ls, Letter (In fz) e.1 e.2) → ls.length ≤ 15 → Q (.ref sp) { s with heap := h', toks := tk }) :
    wpAny (model PySem.Challenge.rw_sn0117_01.row.prog w) A (call (.ref 74) [.ref l]) Q E s := by
  have hF : FnAt (hd.heap_39 w.params) 74 _ _ := ⟨_, _, _, _, by k_is, rfl, rfl⟩
  obtain ⟨X, p, loose, mean, mg, mb, T⟩ := id B
  refine' enterK [(Str.ofString "script", .ref l)] (by omega) X ?k6 ?k7 T.nolimit ?k9 ?kB ?_ ?c2 ?c3 ?c4 ?c5
  walk_at "mine enter"
  intro h₁ kp F N X'
  k_steps
  unfold Halt
  (with_reducible rename Fr _ _ _ _ => F₂)
  (with_reducible rename News _ _ _ _ => N₂)
  refine for_enum hh rfl rfl rfl DrawnJ ?_
  k_steps
  unfold Halt
  refine call_enumerate_list (hl.at fun o e => F₂.keep l o e) ?_
  intro h₃ he hit hsz kp₃
  have hLs := F₂.ns.lt
  have F₃ := F₂.keptAll kp₃
  have N₃ := N₂.grown kp₃
  refine ⟨_, _, l, vs, s.heap, _, _, rfl, he, hit, Nat.succ_ne_self _, hl, ?_, ?_, ?_, ?_, ?_, F₃, N₃, ⟨_, #[], 0, [], if_pos rfl, rfl, .nil, rfl⟩, ?_, ?_⟩
  · exact Heap.get?_none_of_le (Nat.le_trans F₂.above (Nat.le_of_lt (Nat.lt_succ_of_lt hLs)))
  · exact Heap.get?_none_of_le (Nat.le_trans F₂.above (Nat.le_of_lt hLs))
  · exact (Nat.ne_of_lt (Nat.lt_succ_of_lt hLs)).symm
  · exact (Nat.ne_of_lt hLs).symm
  · intro q hq
    have := Heap.lt_size (N₂ q hq).1
    exact ⟨Nat.ne_of_lt (Nat.lt_succ_of_lt this), Nat.ne_of_lt this⟩
  · clear F₂ N₂ F₃ N₃
    intro i t v g₁ m₁ news₁ h₄ k₄ own wr hv hJ kg hnw hown hsub F₄ N₄
    exact turnDrawn hF B kg hi hv hJ hnw hsub F₄ N₄ _
  clear F₂ N₂ F₃ N₃
  rintro g' h₄ tk m' news' kg F₄ N₄ ⟨sa, vs', n, ns', hm, rfl, hi', hlen⟩
  have X₁ := X.keeps kg
  have T₁ := T.keeps kg
  have hsz' : vs'.size = ns'.length := by rw [← Array.length_toList]; exact hi'.length
  k_steps
  unfold Halt
  (with_reducible rename Fr _ _ _ _ => F₅)
  (with_reducible rename News _ _ _ _ => N₅)
  refine item_list (isList_of (newsHd N₅).1) (by omega) (by omega) (v := .ref _) rfl ?_
  k_steps
  unfold Halt
  (with_reducible rename Fr _ _ _ _ => F₆)
  (with_reducible rename News _ _ _ _ => N₆)
  obtain ⟨mu, n1, n2, n3⟩ := spoolStart F₆ N₆ (look_ne (by decide +kernel) (if_pos rfl)) (if_pos rfl) (look_ne (by decide +kernel) (look_ne (by decide +kernel) (if_pos rfl))) (by assumption) (by assumption) (by assumption) (by assumption)
  have hsa := newsHd (newsTl (newsTl (newsTl (newsTl N₆))))
  refine for_new hh rfl rfl SpoolJ ?_
  k_steps
  unfold Halt
  refine ⟨sa, vs', g', _, mu, rfl, isList_of hsa.1, hsa.2.1, hsa.2.2, n2, F₆, n1, n3, ?_, ?_⟩
  · clear F₆ N₆
    intro i v g₂ m₂ news₂ h₇ tk₇ own wr hv hJ kg₂ hnw hown hsub F₇ N₇
    refine turnSpool hF B (kg.trans kg₂) hi' hv ?_ hJ hnw hown hsub F₇ N₇ _
    have := (Array.getElem?_eq_some_iff.mp hv).1
    omega
  clear F₆ N₆
  rintro g₂ h₇ tk₇ m₂ news₂ kg₂ F₇ N₇ ⟨sp, spI, spn, ch, chI, chn, bt, ts, f, r, fz, ls, msp, mch, mbt, rfl, hbt, hspI, hchI, hS, hls, hcn, hll, hnd⟩
  have X₂ := X₁.keeps kg₂
  have T₂ := T₁.keeps kg₂
  k_steps
  have up : ∀ a o, In fz a o → In ((sp, listOf spI spn) :: (ch, listOf chI chn) :: frObj f :: (r.map frObj ++ fz)) a o := fun a o h => List.mem_cons_of_mem _ (List.mem_cons_of_mem _ (List.mem_cons_of_mem _ (List.mem_append_right _ h)))
  obtain ⟨d, hd'⟩ := close (hS.mono up) (fun p hp => by
    refine List.mem_cons_of_mem _ (List.mem_cons_of_mem _ ?_)
    rcases List.mem_cons.mp hp with rfl | hp
    · exact List.mem_cons_self ..
    · exact List.mem_cons_of_mem _ (List.mem_append_left _ (List.mem_map_of_mem (f := frObj) hp))) (by omega)
  have kall := kg.trans kg₂
  refine hq _ _ _ sp spI spn (ls ++ [((bottom f r).a, d)]) (kall.trans F₇.keep) (new_of kall N₇) (List.mem_cons_self ..) ?_ ?_ ?_
  · rw [hspI]; simp
  · intro e he
    rcases List.mem_append.mp he with he | he
    · exact (hls e he).mono up
    · rw [List.mem_singleton.mp he]; exact hd'
  · rw [List.length_append, List.length_singleton]; omega

section
variable {prog : Program}
theorem loop_grow {elt iter : Expr} {x : Str} {px : Pos} {scope : Scope} {pos : Pos} {I ax D : Addr} {cenv : Env} {items : Array Value} {m : Str → Option Value} {RR : Result → Shared → Prop}
    (R : Nat → List (Addr × Obj) → List Value → Prop) (hlen : ∀ j fz ys, R j fz ys → ys.length = j)
    (hh : A.handled = none) (hx : cenv.kindOf x = some .local)
    (hp : (cenv.scope.kind == .class || (cenv.scope.kind == .module && cenv.locals != cenv.globals)) = false)
    (hDI : D ≠ I) (hDC : D ≠ cenv.locals) (hIC : I ≠ cenv.locals) (haI : ax ≠ I) (haC : ax ≠ cenv.locals) (haD : ax ≠ D)
    (hit : s.heap.IsListIter I ax 0) (hl : s.heap.IsList ax items) (hacc : s.heap.IsList D #[]) (hn : s.heap.Ns cenv.locals m) (h0 : R 0 [] []) (hsz : items.size ≤ sizeLine)
    (helt : ∀ j v s₂ m₂ fz ys, items[j]? = some v → R j fz ys → (∀ p ∈ fz, s₂.heap.get? p.1 = some p.2) → s₂.heap.Ns cenv.locals m₂ → m₂ x = some v → (∀ b o, b ≠ cenv.locals → b ≠ I → b ≠ D → s.heap.get? b = some o → s₂.heap.get? b = some o) →
      wpAny (model prog w) A (eval elt cenv) (fun y s₃ => ∃ h' tk fz', s₃ = { s₂ with heap := h', toks := tk } ∧ Keep s₂.heap h' ∧ New s₂.heap h' fz' ∧ R (j + 1) (fz' ++ fz) (ys ++ [y])) (notedBy (model prog w) A cenv fun e s' => RR (.error e) s') s₂)
    (hR : ∀ h' tk m' fz ys, h'.Ns cenv.locals m' → h'.IsList D ys → R items.size fz ys.toList → (∀ p ∈ fz, h'.get? p.1 = some p.2 ∧ s.heap.get? p.1 = none) →
      (∀ b o, b ≠ cenv.locals → b ≠ I → b ≠ D → s.heap.get? b = some o → h'.get? b = some o) → RR (.ok .next) { s with heap := h', toks := tk }) :
    codeAny (model prog w) A (.compLoop (.ListComp elt [⟨.Name x px, iter, [], 0⟩] scope pos) 0 (.ref I) (.ref D) cenv) RR s := by
  refine codeAny_compLoop_tests
    (fun k s' => ∃ h' tk m' ys i fz, s' = { s with heap := h', toks := tk } ∧ h'.IsListIter I ax i ∧ h'.IsList ax items ∧ h'.IsList D ys ∧ h'.Ns cenv.locals m' ∧ R i fz ys.toList ∧
      (∀ p ∈ fz, h'.get? p.1 = some p.2 ∧ s.heap.get? p.1 = none ∧ p.1 ≠ cenv.locals ∧ p.1 ≠ I ∧ p.1 ≠ D) ∧ i ≤ items.size ∧ k = items.size + 1 - i ∧
      ∀ b o, b ≠ cenv.locals → b ≠ I → b ≠ D → s.heap.get? b = some o → h'.get? b = some o) ?_ (items.size + 1)
    ⟨s.heap, s.toks, m, #[], 0, [], rfl, hit, hl, hacc, hn, h0, (fun _ h => nomatch h), Nat.zero_le _, rfl, fun _ _ _ _ _ e => e⟩
  rintro k s' ⟨H, tk, m', ys, i, fz, rfl, hit', hl', hacc', hn', hRi, hfz, hi, rfl, hk⟩
  cases hv : items[i]? with
  | none =>
    have hge : items.size ≤ i := by simpa using hv
    have hie : i = items.size := Nat.le_antisymm hi hge
    subst hie
    refine wpAny_pyNext_list_end hh hit' hl' hv fun h₁ he₁ => ?_
    exact hR h₁ tk m' fz ys (hn'.extBut he₁ (Ne.symm hIC)) (hacc'.extBut he₁ hDI) hRi (fun p hp => ⟨he₁ _ _ (hfz p hp).2.2.2.1 (hfz p hp).1, (hfz p hp).2.1⟩) fun b o hbC hbI hbD e => he₁ b o hbI (hk b o hbC hbI hbD e)
  | some v =>
    have hlt : i < items.size := (Array.getElem?_eq_some_iff.mp hv).1
    refine wpAny_pyNext_list_item hit' hl' hv fun h₁ hit₁ hs₁ => ?_
    refine wpAny_assign_Name (wpAny_storeName_local hx (hn'.sameBut hs₁ (Ne.symm hIC)) (fun h₂ hn₂ hs₂ => ?_) hp)
    refine wpAny_tests_nil ?_
    rw [if_pos rfl]
    have up₂ : ∀ b o, b ≠ cenv.locals → b ≠ I → H.get? b = some o → h₂.get? b = some o := fun b o hbC hbI e => hs₂.extBut b o hbC (hs₁.extBut b o hbI e)
    have hit₂ : h₂.IsListIter I ax (i + 1) := hit₁.extBut hs₂.extBut hIC
    have hl₂ : h₂.IsList ax items := hl'.at fun o e => up₂ ax o haC haI e
    have hacc₂ : h₂.IsList D ys := hacc'.at fun o e => up₂ D o hDC hDI e
    refine wpAny_mono (helt i v _ _ fz ys.toList hv hRi (fun p hp => up₂ _ _ (hfz p hp).2.2.1 (hfz p hp).2.2.2.1 (hfz p hp).1) hn₂ (by simp) fun b o hbC hbI hbD e => up₂ b o hbC hbI (hk b o hbC hbI hbD e)) (fun y s₄ h₄ => ?_) fun _ _ e => e
    obtain ⟨h₄, tk₄, fz', rfl, hk₄, hnew, hR₄⟩ := h₄
    have hys : ys.size ≤ sizeLine := by
      have := hlen _ _ _ hRi
      rw [Array.length_toList] at this
      omega
    have live : ∀ p ∈ fz', p.1 ≠ cenv.locals ∧ p.1 ≠ I ∧ p.1 ≠ D := by
      intro p hp
      have h1 := (hnew p hp).2
      refine ⟨?_, ?_, ?_⟩
      · intro e
        rw [e] at h1
        obtain ⟨o, _, _, ho, _⟩ := hn₂
        rw [show h₂.get? cenv.locals = none from h1] at ho
        cases ho
      · intro e
        rw [e] at h1
        obtain ⟨o, ho, _⟩ := hit₂
        rw [show h₂.get? I = none from h1] at ho
        cases ho
      · intro e
        rw [e] at h1
        obtain ⟨o, ho, _⟩ := hacc₂
        rw [show h₂.get? D = none from h1] at ho
        cases ho
    refine wpAny_list_append (hsz := hys) (hacc₂.at fun o e => hk₄ _ o e) fun h₅ hl₅ hs₅ => ?_
    refine ⟨items.size + 1 - (i + 1), by omega, h₅, tk₄, _, ys.push y, i + 1, fz' ++ fz, rfl, (hit₂.at fun o e => hk₄ _ o e).extBut hs₅.extBut (Ne.symm hDI), (hl₂.at fun o e => hk₄ _ o e).extBut hs₅.extBut haD, hl₅,
      (hn₂.keeps hk₄).sameBut hs₅ (Ne.symm hDC), ?_, ?_, hlt, rfl, fun b o hbC hbI hbD e => hs₅.extBut b o hbD (hk₄ b o (up₂ b o hbC hbI (hk b o hbC hbI hbD e)))⟩
    · rw [Array.toList_push]; exact hR₄
    · intro p hp
      rcases List.mem_append.mp hp with hp | hp
      · refine ⟨hs₅.extBut _ _ (live p hp).2.2 (hnew p hp).1, ?_, live p hp⟩
        cases hg : s.heap.get? p.1 with
        | none => rfl
        | some o =>
          have h1 := up₂ p.1 o (live p hp).1 (live p hp).2.1 (hk p.1 o (live p hp).1 (live p hp).2.1 (live p hp).2.2 hg)
          rw [show h₂.get? p.1 = none from (hnew p hp).2] at h1
          cases h1
      · exact ⟨hs₅.extBut _ _ (hfz p hp).2.2.2.2 (hk₄ _ _ (up₂ _ _ (hfz p hp).2.2.1 (hfz p hp).2.2.2.1 (hfz p hp).1)), (hfz p hp).2⟩

/-- what stands after an iterator, a list and a block's own table were made -/
theorem three_new {h h₁ : Heap} {it lst fr : Obj} (f1 : it.isFreed = false) (f2 : lst.isFreed = false) (hs : Heap.SameBut ((h.push it).push lst).objs.size (((h.push it).push lst).push fr) h₁) :
    Keep h h₁ ∧ h₁.get? h.objs.size = some it ∧ h₁.get? (h.push it).objs.size = some lst ∧ (h.push it).objs.size = h.objs.size + 1 ∧ ((h.push it).push lst).objs.size = h.objs.size + 2 := by
  have s1 : (h.push it).objs.size = h.objs.size + 1 := Heap.size_push ..
  have s2 : ((h.push it).push lst).objs.size = h.objs.size + 2 := by rw [Heap.size_push, s1]
  have go : ∀ (b : Nat) o, b < h.objs.size + 2 → ((h.push it).push lst).get? b = some o → h₁.get? b = some o := fun b o hb e => hs.extBut b o (by rw [s2]; exact Nat.ne_of_lt hb) (Heap.get?_push_of_some _ e)
  refine ⟨fun b o e => go b o ?_ (Heap.get?_push_of_some _ (Heap.get?_push_of_some _ e)), go _ _ (by omega) (Heap.get?_push_of_some _ (Heap.get?_push_size _ f1)), go _ _ (by rw [s1]; omega) (Heap.get?_push_size _ f2), s1, s2⟩
  exact Nat.lt_of_lt_of_le (Heap.lt_size e) (Nat.le_add_right _ _)
theorem block_grow {elt iter : Expr} {x : Str} {px : Pos} {scope : Scope} {pos : Pos} {env : Env} {RR : Value → Env → Result → Shared → Prop} {s₁ : Shared} {ax : Addr} {items : Array Value} (R : Nat → List (Addr × Obj) → List Value → Prop) (hlen : ∀ j fz ys, R j fz ys → ys.length = j)
    (hh : A.handled = none) (hcell : ∀ y ∈ scope.names, y.2 ≠ .cell) (hkind : scope.kind = .function) (hx : scope.names.lookup x = some .local)
    (hl : s₁.heap.IsList ax items) (hsz : items.size ≤ sizeLine) (h0 : R 0 [] [])
    (helt : ∀ C j v s₂ m₂ fz ys E', items[j]? = some v → R j fz ys → (∀ p ∈ fz, s₂.heap.get? p.1 = some p.2) → s₂.heap.Ns C m₂ → m₂ x = some v → Keep s₁.heap s₂.heap →
        wpAny (model prog w) A (eval elt (compEnv scope C env)) (fun y s₃ => ∃ h' tk fz', s₃ = { s₂ with heap := h', toks := tk } ∧ Keep s₂.heap h' ∧ New s₂.heap h' fz' ∧ R (j + 1) (fz' ++ fz) (ys ++ [y])) E' s₂)
    (hRR : ∀ D C h' tk m' fz ys, s₁.heap.get? D = none → s₁.heap.get? C = none → D ≠ C → h'.Ns C m' → h'.IsList D ys → R items.size fz ys.toList → (∀ p ∈ fz, h'.get? p.1 = some p.2 ∧ s₁.heap.get? p.1 = none ∧ p.1 ≠ C) → Keep s₁.heap h' →
      RR (.ref D) (compEnv scope C env) (.ok .next) { s₁ with heap := h', toks := tk }) :
    wpAny (model prog w) A (pyIter (.ref ax)) (fun it s₂ => wpAny (model prog w) A (newList []) (fun acc s₃ => wpAny (model prog w) A (newFunctionEnv scope env.globals [] [] env.qual none .none (some env)) (fun cenv s₄ =>
      codeAny (model prog w) A (.compStart (.ListComp elt [⟨.Name x px, iter, [], 0⟩] scope pos) 0 it acc { cenv with scope := scope }) (RR acc { cenv with scope := scope }) s₄) E s₃) E s₂) E s₁ := by
  obtain ⟨ol, hol, hol'⟩ := id hl
  have hax : ax < s₁.heap.objs.size := Heap.lt_size hol
  refine wpAny_pyIter_list hl (wpAny_newObj_type (hd := by size_fits) (wpAny_newFunctionEnv hcell (by intro y hy; simp at hy) (fun h₁ hns₁ hsb₁ => ?_) hkind))
  dsimp only at hns₁ hsb₁ ⊢
  obtain ⟨old, hiO, hdO, sD, sC⟩ := three_new (h := s₁.heap) (it := { cls := .type "list_iterator", data := .fields #[.ref ax, .int 0 0] }) (lst := { cls := .type "list", data := .seq ([] : List Value).toArray }) rfl rfl hsb₁
  have hit : h₁.IsListIter s₁.heap.objs.size ax 0 := ⟨_, hiO, rfl, rfl⟩
  have hacc : h₁.IsList (s₁.heap.push { cls := .type "list_iterator", data := .fields #[.ref ax, .int 0 0] }).objs.size #[] := ⟨_, hdO, rfl, _, rfl⟩
  revert hns₁ hacc hdO sD sC
  generalize ((s₁.heap.push { cls := .type "list_iterator", data := .fields #[.ref ax, .int 0 0] }).push _).objs.size = C
  generalize (s₁.heap.push { cls := .type "list_iterator", data := .fields #[.ref ax, .int 0 0] }).objs.size = D
  intro hns₁ _ sD sC hacc
  have hDI : D ≠ s₁.heap.objs.size := by omega
  have hDC : D ≠ C := by omega
  have hIC : s₁.heap.objs.size ≠ C := by omega
  have off : ∀ b : Nat, b < s₁.heap.objs.size → b ≠ C ∧ b ≠ s₁.heap.objs.size ∧ b ≠ D := fun b hb => by omega
  have keep : ∀ h' : Heap, (∀ b o, b ≠ C → b ≠ s₁.heap.objs.size → b ≠ D → h₁.get? b = some o → h'.get? b = some o) → Keep s₁.heap h' := fun h' hk b o e =>
    hk b o (off b (Heap.lt_size e)).1 (off b (Heap.lt_size e)).2.1 (off b (Heap.lt_size e)).2.2 (old b o e)
  have none_at : ∀ b : Nat, s₁.heap.objs.size ≤ b → s₁.heap.get? b = none := fun b hb => Heap.get?_none_of_le hb
  have run : codeAny (model prog w) A (.compLoop (.ListComp elt [⟨.Name x px, iter, [], 0⟩] scope pos) 0 (.ref s₁.heap.objs.size) (.ref D) (compEnv scope C env)) (RR (.ref D) (compEnv scope C env)) { s₁ with heap := h₁, toks := s₁.toks + ([] : List (Str × Value)).length } := by
    refine loop_grow (cenv := compEnv scope C env) R hlen hh hx (by simp [compEnv, hkind]) hDI hDC hIC (off ax hax).2.1 (off ax hax).1 (off ax hax).2.2 hit (hl.at fun o e => old _ _ e) hacc hns₁ h0 hsz
      (fun j v s₂ m₂ fz ys hv hR hfz hn hm hk => helt _ j v s₂ m₂ fz ys _ hv hR hfz hn hm (keep _ hk)) fun h' tk m' fz ys hn ha hR hfz hk => ?_
    refine hRR _ _ h' tk m' fz ys (none_at _ (by omega)) (none_at _ (by omega)) hDC hn ha hR (fun p hp => ⟨(hfz p hp).1, none_of old (hfz p hp).2, fun e => ?_⟩) (keep _ hk)
    obtain ⟨o, _, _, ho, _⟩ := hns₁
    rw [← e, (hfz p hp).2] at ho
    cases ho
  exact codeAny_compStart_list run (wpAny_pyIter_listiter hit run)
theorem comp_grow {elt iter : Expr} {x : Str} {px : Pos} {scope : Scope} {pos : Pos} {env : Env} {Q : Value → Shared → Prop} (R : Nat → List (Addr × Obj) → List Value → Prop) (hlen : ∀ j fz ys, R j fz ys → ys.length = j)
    (hh : A.handled = none) (hfree : ∀ y ∈ scope.names, y.2 ≠ .free) (hcell : ∀ y ∈ scope.names, y.2 ≠ .cell) (hkind : scope.kind = .function)
    (hnames : ∀ y ∈ scope.names, y.2 = .local → scope.names.lookup y.1 = some .local) (hx : scope.names.lookup x = some .local)
    (h : wpAny (model prog w) A (eval iter env) (fun xv s₁ => Halt (∃ ax items, xv = .ref ax ∧ s₁.heap.IsList ax items ∧ items.size ≤ sizeLine ∧ R 0 [] [] ∧
      (∀ C j v s₂ m₂ fz ys E', items[j]? = some v → R j fz ys → (∀ p ∈ fz, s₂.heap.get? p.1 = some p.2) → s₂.heap.Ns C m₂ → m₂ x = some v → Keep s₁.heap s₂.heap →
        wpAny (model prog w) A (eval elt (compEnv scope C env)) (fun y s₃ => ∃ h' tk fz', s₃ = { s₂ with heap := h', toks := tk } ∧ Keep s₂.heap h' ∧ New s₂.heap h' fz' ∧ R (j + 1) (fz' ++ fz) (ys ++ [y])) E' s₂) ∧
      (∀ D h' tk fz ys, s₁.heap.get? D = none → h'.IsList D ys → R items.size fz ys.toList → New s₁.heap h' fz → Keep s₁.heap h' → Q (.ref D) { s₁ with heap := h', toks := tk }))) E s)
    (hs : ∀ x, foldedSetIterable iter env x = pure x := by intro _; rfl) :
    wpAny (model prog w) A (eval (.ListComp elt [⟨.Name x px, iter, [], 0⟩] scope pos) env) Q E s := by
  refine wpAny_ListComp hfree hkind hnames (wpAny_mono h (fun xv s₁ h₁ => ?_) fun _ _ e => e) hs
  obtain ⟨ax, items, rfl, hl, hsz, h0, helt, hQ⟩ := h₁
  refine block_grow (RR := fun acc cenv r s' => ∃ m, s'.heap.Ns cenv.locals m ∧ ∀ h', Heap.SameBut cenv.locals s'.heap h' →
    match r with | .ok _ => Q acc { s' with heap := h' } | .error x => wpAny (model prog w) A (passOn "comprehension.variables-let-go" x cenv) Q E { s' with heap := h' }) R hlen hh hcell hkind hx hl hsz h0 helt ?_
  intro D C h' tk m' fz ys hD hC hDC hnC hlD hR hfz hk
  have off : ∀ {b : Addr} {o : Obj}, s₁.heap.get? b = some o → b ≠ C := fun e q => by rw [q, hC] at e; cases e
  exact ⟨m', hnC, fun h'' hs'' => hQ D h'' tk fz ys hD (hlD.extBut hs''.extBut hDC) hR (fun p hp => ⟨hs''.extBut _ _ (hfz p hp).2.2 (hfz p hp).1, (hfz p hp).2.1⟩) fun b o e => hs''.extBut b o (off e) (hk b o e)⟩
end

theorem sum_len (ys : List (List Nat)) : ((ys.map fun y => (⟨y.toArray⟩ : Str)).map (·.length)).sum = ys.flatten.length := by
  induction ys with
  | nil => rfl
  | cons y r ih =>
    rw [List.map_cons, List.map_cons, List.sum_cons, ih, List.flatten_cons, List.length_append]
    have : (⟨y.toArray⟩ : Str).length = y.length := List.size_toArray ..
    rw [this]
theorem join_texts {D : Addr} {l : List (Str × Tok)} {ys : List (List Nat)} {t : Tok} {Q : Value → Shared → Prop} (hl : s.heap.IsList D (strValues l).toArray) (hm : l.map (·.1) = ys.map fun y => ⟨y.toArray⟩) (hsz : ys.flatten.length + ys.length ≤ 900000)
    (hq : ∀ t' k, Q (.str ⟨ys.flatten.toArray⟩ t') { s with toks := k }) : wpAny (model PySem.Challenge.rw_sn0117_01.row.prog w) A (call (.builtin "str.join") [.str ⟨#[]⟩ t, .ref D]) Q E s := by
  refine SC.join (x := ⟨#[]⟩) (texts := ys.map fun y => ⟨y.toArray⟩) hl hm (PyProof.Rows.joinOk_of_weight ?_ (by decide)) fun t k => ?_
  · rw [sum_len, List.length_map]
    omega
  have e2 : Txt.join ⟨#[]⟩ (ys.map fun y => (⟨y.toArray⟩ : Str)) = ⟨ys.flatten.toArray⟩ := by
    show PySem.Builtin.Str.glued _ _ = _
    rw [StrLaws.glued_eq_join]
    have gen : ∀ ys : List (List Nat), (Str.join ⟨#[]⟩ (ys.map fun y => (⟨y.toArray⟩ : Str))).cps.toList = ys.flatten := by
      intro ys
      induction ys with
      | nil => rfl
      | cons c r ih =>
        cases r with
        | nil => show c.toArray.toList = _; simp
        | cons c' r' =>
          show ((⟨c.toArray⟩ : Str) ++ ⟨#[]⟩ ++ Str.join ⟨#[]⟩ ((c' :: r').map fun y => (⟨y.toArray⟩ : Str))).cps.toList = _
          have : ∀ a b c : Str, (a ++ b ++ c).cps.toList = a.cps.toList ++ b.cps.toList ++ c.cps.toList := by
            intro a b c
            show ((a.cps ++ b.cps) ++ c.cps).toList = _
            simp
          rw [this, ih]
          simp
    have := gen ys
    cases hj : Str.join ⟨#[]⟩ (ys.map fun y => (⟨y.toArray⟩ : Str)) with
    | mk cps => rw [hj] at this; simp only at this; rw [← this]
  rw [e2]
  exact hq t k

def forest : List Told → Told
  | [] => .nil
  | t :: r => .sub t (forest r)
theorem forest_app : ∀ a b : List Told, forest (a ++ b) = (forest a).app (forest b)
  | [], _ => rfl
  | t :: a, b => by simp only [List.cons_append, forest, Told.app, forest_app a b]
theorem forest_get {S : Addr → Obj → Prop} : ∀ {ts : List Told} {vs : List Value} {j : Nat} {v : Value}, Vals S (ofT (forest ts)) vs → vs[j]? = some v → ∃ t a its n, ts[j]? = some t ∧ v = .ref a ∧ S a (listOf its n) ∧ Vals S (ofT t) its.toList
  | [], _, _, _, h, e => by rw [show _ = [] from h] at e; simp at e
  | t :: ts, _, 0, v, ⟨a, its, n, vs', e, h1, h2, _⟩, e' => by
    rw [e] at e'
    simp at e'
    exact ⟨t, a, its, n, rfl, e'.symm, h1, h2⟩
  | t :: ts, _, j + 1, v, ⟨a, its, n, vs', e, _, _, h⟩, e' => by
    rw [e] at e'
    obtain ⟨t', a', its', n', q1, q2⟩ := forest_get (j := j) (v := v) h (by simpa using e')
    exact ⟨t', a', its', n', by simpa using q1, q2⟩

section
variable {p : Program} {loose : List Str} {mg mb : Str → Option Value} {cn : Str} {cs scope : Scope} {L a C : Addr} {ccd : Value} {pos pf px pe pv p2 : Pos} {f x : Str}
/-- f(x) within a comprehension's block, f a def of the program -/
theorem elt_fn1 {k : Addr} {bd : List Stmt} {sc : Scope} {v : Value} {m : Str → Option Value} {Q : Value → Shared → Prop} (X : (hd.heap_39 w.params).In s.heap) (T : TopRead p loose mg mb s.heap) (e : nsIn (hd.heap_39 w.params) mainGlobals f = some (some (.ref k))) (hF : FnAt (hd.heap_39 w.params) k bd sc)
    (hk : scope.kind = .function) (hf : scope.names.lookup f = some .globalImplicit) (hx : scope.names.lookup x = some .local) (hC : s.heap.Ns C m) (hm : m x = some v)
    (hd : (f == ("__debug__" : Str)) = false) (hd' : (x == ("__debug__" : Str)) = false)
    (h : wpAny (model PySem.Challenge.rw_sn0117_01.row.prog w) A (call (.ref k) [v]) Q E s) :
    wpAny (model PySem.Challenge.rw_sn0117_01.row.prog w) A (eval (.Call (.Name f pf) [.Name x px] [] pos) (compEnv scope C (envOf cn cs L a ccd))) Q E s := by
  obtain ⟨oc, od, fd, osl, ho, -, -⟩ := hF
  refine Call_ (Calls.Name_function_global (env := compEnv scope C (envOf cn cs L a ccd)) hk hf ?_ hd)
  refine Calls.loadGlobal_global (mg := mg) T.g (mg_of X T.g e) ?_
  refine callWith_def (o := ⟨oc, od, .func fd, osl⟩) (fd := fd) rfl (args_cons ?_)
  refine wpAny_Name (wpAny_loadName_local (env := compEnv scope C (envOf cn cs L a ccd)) hk hx hC hm ?_) hd'
  exact args_nil ⟨X _ _ ho, h⟩
/-- f(x, n) -/
theorem elt_fn2 {k : Addr} {bd : List Stmt} {sc : Scope} {v : Value} {n : Int} {kk : Nat} {m : Str → Option Value} {Q : Value → Shared → Prop} (X : (hd.heap_39 w.params).In s.heap) (T : TopRead p loose mg mb s.heap) (e : nsIn (hd.heap_39 w.params) mainGlobals f = some (some (.ref k))) (hF : FnAt (hd.heap_39 w.params) k bd sc)
    (hk : scope.kind = .function) (hf : scope.names.lookup f = some .globalImplicit) (hx : scope.names.lookup x = some .local) (hC : s.heap.Ns C m) (hm : m x = some v)
    (hd : (f == ("__debug__" : Str)) = false) (hd' : (x == ("__debug__" : Str)) = false)
    (h : ∀ t tk, wpAny (model PySem.Challenge.rw_sn0117_01.row.prog w) A (call (.ref k) [v, .int n t]) Q E { s with toks := tk }) :
    wpAny (model PySem.Challenge.rw_sn0117_01.row.prog w) A (eval (.Call (.Name f pf) [.Name x px, .Constant (.int n) kk p2] [] pos) (compEnv scope C (envOf cn cs L a ccd))) Q E s := by
  obtain ⟨oc, od, fd, osl, ho, -, -⟩ := hF
  refine Call_ (Calls.Name_function_global (env := compEnv scope C (envOf cn cs L a ccd)) hk hf ?_ hd)
  refine Calls.loadGlobal_global (mg := mg) T.g (mg_of X T.g e) ?_
  refine callWith_def (o := ⟨oc, od, .func fd, osl⟩) (fd := fd) rfl (args_cons ?_)
  refine wpAny_Name (wpAny_loadName_local (env := compEnv scope C (envOf cn cs L a ccd)) hk hx hC hm ?_) hd'
  refine args_cons (wpAny_Constant_int ?_)
  exact args_nil ⟨X _ _ ho, h _ _⟩
end

section
variable {cn : Str} {cs scope : Scope} {L a C : Addr} {ccd : Value} {pos pf px pe pv p2 : Pos} {x : Str}
/-- [_law_wire(x, n) for x in letters] -/
theorem comp_wire {iter : Expr} {Q : Value → Shared → Prop} {n : Int} {kk : Nat} (us : List (List Nat)) (hh : A.handled = none) (hr : A.depth + 5 < recursionLimit) (hfree : ∀ y ∈ scope.names, y.2 ≠ .free) (hcell : ∀ y ∈ scope.names, y.2 ≠ .cell) (hk : scope.kind = .function)
    (hnames : ∀ y ∈ scope.names, y.2 = .local → scope.names.lookup y.1 = some .local) (hf : scope.names.lookup (Str.ofString "_law_wire") = some .globalImplicit) (hx : scope.names.lookup x = some .local) (hd' : (x == ("__debug__" : Str)) = false)
    (e : nsIn (hd.heap_39 w.params) mainGlobals (Str.ofString "_law_wire") = some (some (.ref 79)))
    (hi : wpAny (model PySem.Challenge.rw_sn0117_01.row.prog w) A (eval iter (envOf cn cs L a ccd)) (fun xv s₁ => Halt (∃ (ax : Addr) (items : Array Value), xv = .ref ax ∧ s₁.heap.IsList ax items ∧ items.size = us.length ∧ us.length ≤ 1000 ∧ Base w s₁.heap ∧
      (∀ (j : Nat) (v : Value), items[j]? = some v → ∃ (a : Addr) (jts : Array Value) (jn : Nat) (g : Gen) (u : List Nat), v = Value.ref a ∧ s₁.heap.get? a = some (listOf jts jn) ∧ Vals (At s₁.heap) g jts.toList ∧ g.dep ≤ 2 ∧ g.Short ∧ g.room ≤ 20000 ∧ us[j]? = some u ∧ wireG g = u) ∧
      ∀ D h' tk (l : List (Str × Tok)), s₁.heap.get? D = none → h'.IsList D (strValues l).toArray → l.map (·.1) = us.map (fun u => ⟨u.toArray⟩) → Keep s₁.heap h' → Q (.ref D) { s₁ with heap := h', toks := tk })) E s)
    (hs : ∀ z, foldedSetIterable iter (envOf cn cs L a ccd) z = pure z := by intro _; rfl) :
    wpAny (model PySem.Challenge.rw_sn0117_01.row.prog w) A (eval (.ListComp (.Call (.Name (Str.ofString "_law_wire") pf) [.Name x pe, .Constant (.int n) kk p2] [] pv) [⟨.Name x px, iter, [], 0⟩] scope pos) (envOf cn cs L a ccd)) Q E s := by
  have hF : FnAt (hd.heap_39 w.params) 79 _ _ := ⟨_, _, _, _, by k_is, rfl, rfl⟩
  refine comp_grow (fun j fz ys => fz = [] ∧ ys.length = j ∧ ∃ l : List (Str × Tok), ys = strValues l ∧ l.map (·.1) = (us.take j).map (fun u => ⟨u.toArray⟩)) (fun _ _ _ h => h.2.1) hh hfree hcell hk hnames hx (wpAny_mono hi (fun xv s₁ h => ?_) fun _ _ x => x) hs
  obtain ⟨ax, items, rfl, hl, hsz, hul, B, hit, hq⟩ := h
  refine ⟨ax, items, rfl, hl, by simp [sizeLine]; omega, ⟨rfl, rfl, [], rfl, rfl⟩, ?_, ?_⟩
  · intro C j v s₂ m₂ fz ys E' hv hR hfz hC hm kp
    obtain ⟨aj, jts, jn, g, u, rfl, h1, h2, h3, h4, h5, h6, h7⟩ := hit j v hv
    obtain ⟨rfl, hyl, l, rfl, hlm⟩ := hR
    obtain ⟨X, p, loose, mean, mg, mb, T⟩ := B.keeps kp
    refine elt_fn2 X (topRead_of T) e hF hk hf hx hC hm (by decide +kernel) hd' fun t tk => ?_
    refine wire_spec w 2 (s := { s₂ with toks := tk }) (B.keeps kp) hh g h3 hr aj jts jn (kp _ _ h1) (h2.mono fun _ _ h => kp _ _ h) h4 h5 _ _ ?_
    intro h' tk' t' kp'
    refine ⟨h', tk', [], rfl, kp', (fun _ h => nomatch h), rfl, by rw [List.length_append, hyl]; rfl, l ++ [(⟨u.toArray⟩, t')], ?_, ?_⟩
    · rw [h7]; simp [strValues]
    · rw [List.take_add_one, h6]; simp [hlm]
  · intro D h' tk fz ys hD hlD hR hnew kp
    obtain ⟨-, -, l, hl2, hlm⟩ := hR
    refine hq D h' tk l hD ?_ ?_ kp
    · have : ys = (strValues l).toArray := by rw [← hl2]
      rw [← this]; exact hlD
    · rw [hlm, hsz, List.take_length]
end

def dataT : Told → List PyData
  | .nil => []
  | .txt b r => .str ⟨b.toArray⟩ :: dataT r
  | .sub l r => .list (dataT l) :: dataT r
theorem reads_T {h : Heap} : ∀ {t : Told} {vs : List Value}, Vals (At h) (ofT t) vs → ∃ as, ReadsAll h vs (dataT t) as
  | .nil, _, e => by rw [show _ = [] from e]; exact ⟨_, .nil⟩
  | .txt b r, _, ⟨t, vs', e, hr⟩ => by
    obtain ⟨as, ih⟩ := reads_T hr
    rw [e]
    exact ⟨_, .cons (.str _ _) ih⟩
  | .sub l r, _, ⟨a, its, n, vs', e, ha, hl, hr⟩ => by
    obtain ⟨as, ih⟩ := reads_T hr
    obtain ⟨bs, il⟩ := reads_T hl
    rw [e]
    exact ⟨_, .cons (.list ha rfl rfl il) ih⟩
theorem can_T : ∀ {t : Told}, (ofT t).Short → PyData.canLayAll0 (dataT t) = true
  | .nil, _ => rfl
  | .txt b r, h => by
    simp only [dataT, PyData.canLayAll0, PyData.canLay0, Bool.and_eq_true]
    refine ⟨?_, can_T h.2.2⟩
    show (Array.all _ _) = true
    rw [Array.all_eq_true']
    intro c hc
    have := h.2.1 c (by simpa using hc)
    exact decide_eq_true (by omega)
  | .sub l r, h => by
    simp only [dataT, PyData.canLayAll0, PyData.canLay0, Bool.and_eq_true]
    exact ⟨can_T h.1, can_T h.2⟩
theorem depth_T : ∀ t : Told, PyData.depthAll (dataT t) ≤ (ofT t).dep
  | .nil => Nat.le_refl _
  | .txt b r => by
    have := depth_T r
    simp only [dataT, PyData.depthAll, PyData.depth, ofT, Gen.dep]
    omega
  | .sub l r => by
    have := depth_T r
    have := depth_T l
    simp only [dataT, PyData.depthAll, PyData.depth, ofT, Gen.dep]
    omega
theorem forest_fine : ∀ {ts : List Told}, (∀ t ∈ ts, Fine t) → (ofT (forest ts)).Short ∧ (ofT (forest ts)).dep ≤ 3
  | [], _ => ⟨trivial, Nat.zero_le _⟩
  | t :: ts, h => by
    have ih := forest_fine (ts := ts) fun u hu => h u (List.mem_cons_of_mem _ hu)
    have f := h t (List.mem_cons_self ..)
    refine ⟨⟨f.2.2.1, ih.1⟩, ?_⟩
    have := f.2.2.2.1
    have := ih.2
    simp only [forest, ofT, Gen.dep]
    omega

def LawJ (ts : List Told) (ra D : Addr) (W : Str) (tw : Tok) (fx : List (Addr × Obj)) (i : Nat) (_ : Heap) (m : Str → Option Value) (mu : List (Addr × Obj)) : Prop :=
  ∃ gt gI c fz tp, m (Str.ofString "got") = some (.ref gt) ∧ m (Str.ofString "place") = some (.int (((allRows (ts.take i)).length : Nat) : Int) tp) ∧ m (Str.ofString "rows") = some (.ref ra) ∧ m (Str.ofString "told") = some (.ref D) ∧ m (Str.ofString "wire") = some (.str W tw) ∧
    mu = (gt, listOf gI c) :: (fz ++ fx) ∧ Vals (In fz) (ofT (forest (ts.take i))) gI.toList ∧ gI.size = i ∧ (∀ p ∈ fz ++ fx, p.1 ≠ gt) ∧ i ≤ ts.length

theorem turnLaw {body : List Stmt} {scope : Scope} (hF : FnAt (hd.heap_39 w.params) 98 body scope) (hh : A.handled = none) (hr : A.depth + 3 < recursionLimit) {L fa : Addr} {ccd : Value} {g₀ g h : Heap} {m : Str → Option Value} {mu fx : List (Addr × Obj)} {s₁ : Shared}
    {Q : Flow → Shared → Prop} (B₀ : Base w g₀) (kg₀ : Keep g₀ g) {ts : List Told} {ra D : Addr} {W : Str} {tw : Tok} {rI : Array Value} {rc i : Nat} (hra : (ra, listOf rI rc) ∈ fx) (hrows : RowsV (allRows ts) rI.toList) (hts : ∀ t ∈ ts, Fine t) (htl : ts.length ≤ 15)
    (hJ : LawJ ts ra D W tw fx i g m mu) (F : Fr g L h m) (N : News g L h mu) (tks : Nat) :
    wpAny (model PySem.Challenge.rw_sn0117_01.row.prog w) A (isTrue (whileTest (nth body 6)) (envOf (Str.ofString "law") scope L fa ccd) (eval (whileTest (nth body 6)) (envOf (Str.ofString "law") scope L fa ccd))) (fun b s₂ =>
      if b = true then wpAny (model PySem.Challenge.rw_sn0117_01.row.prog w) A (execs (whileBody (nth body 6)) (envOf (Str.ofString "law") scope L fa ccd)) (Turn L [] [] (fun g' m' news' => i < ts.length ∧ LawJ ts ra D W tw fx (i + 1) g' m' news') { s₁ with heap := h, toks := tks } Q g) (fun _ _ => False) s₂
      else Turn L [] [] (LawJ ts ra D W tw fx ts.length) { s₁ with heap := h, toks := tks } Q g .next s₂) (fun _ _ => False) { s₁ with heap := h, toks := tks } := by
  have hF' : FnAt (hd.heap_39 w.params) 98 _ _ := ⟨_, _, _, _, by k_is, rfl, rfl⟩
  obtain ⟨rfl, rfl⟩ := FnAt.inj hF hF'
  clear hF hF'
  dsimp only [nth, whileBody, whileTest]
  obtain ⟨gt, gI, c, fz, tp, mg', mp, mr, mt, mw, rfl, hV, hgs, hne, hi⟩ := hJ
  obtain ⟨X', p, loose, mean, mg, mb, T⟩ := id (B₀.keeps kg₀)
  have hsz : rI.size = (allRows ts).length := by rw [← hrows.len]; simp
  have hall : (allRows ts).length ≤ 10000 := by have := all_len hts; omega
  have hrr : h.get? ra = some (listOf rI rc) := (newsTl N _ (List.mem_append_right _ hra)).1
  have hgt : h.get? gt = some (listOf gI c) := (newsHd N).1
  k_steps
  unfold Halt
  refine len_lst (isList_of hrr) (by omega) fun t₁ tk₁ => ?_
  by_cases hlt : i < ts.length
  · obtain ⟨t, ht⟩ : ∃ t, ts[i]? = some t := ⟨_, List.getElem?_eq_getElem hlt⟩
    have hpl := all_lt ht
    have hf := hts t (List.mem_of_getElem? ht)
    k_steps
    unfold Halt
    refine open_spec w 2 (B₀.keeps (kg₀.trans F.keep)) hh t hf.1 hf.2.2.2.1 hr ra rI rc hrr (allRows ts) (allRows (ts.drop (i + 1))) hrows _ _ (all_drop ht) hall (fun r hr => Nat.le_trans (all_short hts r hr) (by omega)) ?_
    intro h₅ tk₅ fz₅ ra₅ vs₅ c₅ tu₅ t₅ kp₅ hnew hra₅ hV₅ htu _
    have F₅ := F.keptAll kp₅
    have Nz : News g L h₅ fz₅ := fun p hp => fresh_news F (hnew p hp).1 (hnew p hp).2
    have N₅ := newsCon (newsHd (N.grown kp₅)) (Nz.append (newsTl (N.grown kp₅)))
    have hfresh : ∀ p ∈ fz₅, p.1 ≠ gt := by
      intro p hp e
      have h1 := (hnew p hp).2
      rw [e] at h1
      rw [show h.get? gt = none from h1] at hgt
      cases hgt
    clear F N Nz
    k_steps
    unfold Halt
    refine unpackN_ F₅ N₅ (⟨_, htu, rfl, _, rfl⟩) hh (by rfl) (by rfl) ?_
    intro h₆ F₆ N₆
    clear F₅ N₅ htu
    k_steps
    unfold Halt
    (with_reducible rename Fr _ _ _ _ => F₇)
    (with_reducible rename News _ _ _ _ => N₇)
    have hne' : ∀ p ∈ fz₅ ++ (fz ++ fx), p.1 ≠ gt := fun p hp => (List.mem_append.mp hp).elim (hfresh p) (hne p)
    refine method_append (newsHd N₇).1 ?_
    k_steps
    unfold Halt
    refine append_hd F₇ N₇ hne' (by simp [sizeLine]; omega) ?_
    intro h₈ F₈ N₈
    clear F₇ N₇
    k_steps
    refine Turn.next (Keep.refl _) F₈ (news' := (gt, _) :: ((fz₅ ++ fz) ++ fx)) (fun p hp => N₈ p (by simpa using hp)) (fun _ _ h => nomatch h) ⟨hlt, gt, _, _, fz₅ ++ fz, ?tt, look_ne (by decide +kernel) (look_ne (by decide +kernel) mg'), ?gp, look_ne (by decide +kernel) (look_ne (by decide +kernel) mr), look_ne (by decide +kernel) (look_ne (by decide +kernel) mt), look_ne (by decide +kernel) (look_ne (by decide +kernel) mw), rfl, ?_, ?_, ?_, hlt⟩
    case gp => rw [all_take ht]; exact if_pos rfl
    · rw [Array.toList_push, List.take_add_one, ht, forest_app]
      exact Vals_app (hV.mono In.right) ⟨ra₅, vs₅, c₅, [], rfl, In.left _ _ hra₅, hV₅.mono In.left, rfl⟩
    · rw [Array.size_push, hgs]
    · intro p hp
      rw [List.append_assoc] at hp
      exact hne' p hp
  · have he : i = ts.length := by omega
    subst he
    have hpl : (allRows (ts.take ts.length)).length = (allRows ts).length := by rw [List.take_length]
    k_steps
    exact Turn.next (Keep.refl _) F (news' := (gt, listOf gI c) :: (fz ++ fx)) (fun p hp => N p (by simpa using hp)) (fun _ _ h => nomatch h) ⟨gt, gI, c, fz, tp, mg', mp, mr, mt, mw, rfl, hV, hgs, hne, hi⟩

section
variable {prog : Program}
theorem assign_grow {elt iter : Expr} {x y : Str} {px py : Pos} {scope : Scope} {pos spos : Pos} {cn : Str} {cs : Scope} {L a : Addr} {ccd : Value} {Q : Flow → Shared → Prop} (R : Nat → List (Addr × Obj) → List Value → Prop) (hlen : ∀ j fz ys, R j fz ys → ys.length = j)
    (hsw : swapsWith (.ListComp elt [⟨.Name x px, iter, [], 0⟩] scope pos) (some (.Name y py)) spos.line (envOf cn cs L a ccd) = pure true)
    (hh : A.handled = none) (hfree : ∀ y ∈ scope.names, y.2 ≠ .free) (hcell : ∀ y ∈ scope.names, y.2 ≠ .cell) (hkind : scope.kind = .function)
    (hnames : ∀ y ∈ scope.names, y.2 = .local → scope.names.lookup y.1 = some .local) (hx : scope.names.lookup x = some .local)
    (hy : (envOf cn cs L a ccd).kindOf y = some .local) (hp : ((envOf cn cs L a ccd).scope.kind == .class || ((envOf cn cs L a ccd).scope.kind == .module && L != (envOf cn cs L a ccd).globals)) = false)
    (h : wpAny (model prog w) A (eval iter (envOf cn cs L a ccd)) (fun xv s₁ => Halt (∃ ax items g m, xv = .ref ax ∧ s₁.heap.IsList ax items ∧ items.size ≤ sizeLine ∧ R 0 [] [] ∧ Fr g L s₁.heap m ∧
      (∀ C j v s₂ m₂ fz ys E', items[j]? = some v → R j fz ys → (∀ p ∈ fz, s₂.heap.get? p.1 = some p.2) → s₂.heap.Ns C m₂ → m₂ x = some v → Keep s₁.heap s₂.heap →
        wpAny (model prog w) A (eval elt (compEnv scope C (envOf cn cs L a ccd))) (fun y s₃ => ∃ h' tk fz', s₃ = { s₂ with heap := h', toks := tk } ∧ Keep s₂.heap h' ∧ New s₂.heap h' fz' ∧ R (j + 1) (fz' ++ fz) (ys ++ [y])) E' s₂) ∧
      (∀ D h' tk fz ys, s₁.heap.get? D = none → h'.IsList D ys → R items.size fz ys.toList → New s₁.heap h' fz → Fr g L h' (fun z => if z = y then some (.ref D) else m z) → (∀ news, News g L s₁.heap news → News g L h' news) → Q .next { s₁ with heap := h', toks := tk }))) E s)
    (hs : ∀ x, foldedSetIterable iter (envOf cn cs L a ccd) x = pure x := by intro _; rfl) :
    wpAny (model prog w) A (exec (.Assign [.Name y py] (.ListComp elt [⟨.Name x px, iter, [], 0⟩] scope pos) spos) (envOf cn cs L a ccd)) Q E s := by
  rw [exec_Assign_Name_used _ _ _ _ hsw]
  refine wpAny_bind (wpAny_standAt (wpAny_bind ?_))
  show wpAny _ A (do let _ ← comprehension (.ListComp elt [⟨.Name x px, iter, [], 0⟩] scope pos) scope (envOf cn cs L a ccd) _ (newList []) false (eval iter (envOf cn cs L a ccd)) (some (assign (.Name y py) (envOf cn cs L a ccd)))) _ _ s
  refine wpAny_bind (wpAny_mono (wpAny_comprehension_use (Q := fun _ s' => Q .next s') rfl hs hfree hkind hnames (wpAny_mono h (fun xv s₁ h₁ => ?_) fun _ _ e => e))
    (fun _ s' hq => wpAny_pure (wpAny_pure hq)) fun _ _ e => e)
  obtain ⟨ax, items, g, m, rfl, hl, hsz, h0, F, helt, hQ⟩ := h₁
  refine block_grow (RR := fun acc cenv r s' => match r with
      | .ok _ => wpAny (model prog w) A (assign (.Name y py) (envOf cn cs L a ccd) acc) (fun _ s'' => ∃ m, s''.heap.Ns cenv.locals m ∧ ∀ h', Heap.SameBut cenv.locals s''.heap h' → Q .next { s'' with heap := h' }) E s'
      | .error x => ∃ m, s'.heap.Ns cenv.locals m ∧ ∀ h', Heap.SameBut cenv.locals s'.heap h' → wpAny (model prog w) A (passOn "comprehension.variables-let-go" x cenv) (fun _ s' => Q .next s') E { s' with heap := h' }) R hlen hh hcell hkind hx hl hsz h0 helt ?_
  intro D C h' tk m' fz ys hD hC hDC hnC hlD hR hfz hk
  have hLL : ∃ o, s₁.heap.get? L = some o := by obtain ⟨o, _, _, ho, _⟩ := F.ns; exact ⟨o, ho⟩
  obtain ⟨oL, hoL⟩ := hLL
  have notL : ∀ {b : Addr}, s₁.heap.get? b = none → b ≠ L := fun hb e => by rw [e, hoL] at hb; cases hb
  have hLC : L ≠ C := (notL hC).symm
  have hLD : L ≠ D := (notL hD).symm
  have F' := F.keptAll hk
  refine wpAny_assign_Name (wpAny_storeName_local hy F'.ns (fun h₂ hn₂ hs₂ => ?_) hp)
  refine ⟨m', hnC.sameBut hs₂ (Ne.symm hLC), fun h₃ hs₃ => ?_⟩
  have F₂ := F'.set hn₂ hs₂
  have kept : ∀ b o, b ≠ L → b ≠ C → h'.get? b = some o → h₃.get? b = some o := fun b o hb hc e => hs₃.extBut b o hc (hs₂.extBut b o hb e)
  refine hQ D h₃ _ fz ys hD ((hlD.extBut hs₂.extBut (Ne.symm hLD)).extBut hs₃.extBut hDC) hR (fun p hp => ⟨kept _ _ (notL (hfz p hp).2.1) (hfz p hp).2.2 (hfz p hp).1, (hfz p hp).2.1⟩) ?_ ?_
  · refine ⟨hn₂.sameBut hs₃ hLC, fun b o e => ?_, F.above⟩
    refine kept b o ?_ ?_ (F'.keep b o e)
    · exact Nat.ne_of_lt (Nat.lt_of_lt_of_le (Heap.lt_size e) F.above)
    · rintro rfl
      rw [F.keep _ _ e] at hC
      cases hC
  · intro news N p hp
    refine ⟨kept _ _ (N p hp).2.1 ?_ (hk _ _ (N p hp).1), (N p hp).2⟩
    intro e
    have h1 := (N p hp).1
    rw [e, hC] at h1
    cases h1
end

section
variable {cn : Str} {cs scope : Scope} {L a C : Addr} {ccd : Value} {pos spos pf px pe pv py : Pos} {x y : Str}
theorem told_assign {iter : Expr} {Q : Flow → Shared → Prop} (ls : List (Addr × Draw))
    (hsw : swapsWith (.ListComp (.Call (.Name (Str.ofString "_law_told") pf) [.Name x pe] [] pv) [⟨.Name x px, iter, [], 0⟩] scope pos) (some (.Name y py)) spos.line (envOf cn cs L a ccd) = pure true)
    (hh : A.handled = none) (hr : A.depth + 3 < recursionLimit) (hfree : ∀ y ∈ scope.names, y.2 ≠ .free) (hcell : ∀ y ∈ scope.names, y.2 ≠ .cell) (hk : scope.kind = .function)
    (hnames : ∀ y ∈ scope.names, y.2 = .local → scope.names.lookup y.1 = some .local) (hf : scope.names.lookup (Str.ofString "_law_told") = some .globalImplicit) (hx : scope.names.lookup x = some .local) (hd' : (x == ("__debug__" : Str)) = false)
    (hy : (envOf cn cs L a ccd).kindOf y = some .local) (hp : ((envOf cn cs L a ccd).scope.kind == .class || ((envOf cn cs L a ccd).scope.kind == .module && L != (envOf cn cs L a ccd).globals)) = false)
    (e : nsIn (hd.heap_39 w.params) mainGlobals (Str.ofString "_law_told") = some (some (.ref 93)))
    (hi : wpAny (model PySem.Challenge.rw_sn0117_01.row.prog w) A (eval iter (envOf cn cs L a ccd)) (fun xv s₁ => Halt (∃ (ax : Addr) (items : Array Value) (g : Heap) (m : Str → Option Value), xv = .ref ax ∧ s₁.heap.IsList ax items ∧ items.toList = ls.map (fun e => Value.ref e.1) ∧ (∀ e ∈ ls, Letter (At s₁.heap) e.1 e.2) ∧ ls.length ≤ 15 ∧ Base w s₁.heap ∧ Fr g L s₁.heap m ∧
      ∀ D h' tk fz ys, s₁.heap.get? D = none → h'.IsList D ys → Vals (In fz) (ofT (forest (ls.map fun e => told e.2))) ys.toList → New s₁.heap h' fz → Fr g L h' (fun z => if z = y then some (.ref D) else m z) → (∀ news, News g L s₁.heap news → News g L h' news) → Q .next { s₁ with heap := h', toks := tk })) E s)
    (hs : ∀ z, foldedSetIterable iter (envOf cn cs L a ccd) z = pure z := by intro _; rfl) :
    wpAny (model PySem.Challenge.rw_sn0117_01.row.prog w) A (exec (.Assign [.Name y py] (.ListComp (.Call (.Name (Str.ofString "_law_told") pf) [.Name x pe] [] pv) [⟨.Name x px, iter, [], 0⟩] scope pos) spos) (envOf cn cs L a ccd)) Q E s := by
  have hF : FnAt (hd.heap_39 w.params) 93 _ _ := ⟨_, _, _, _, by k_is, rfl, rfl⟩
  refine assign_grow (fun j fz ys => Vals (In fz) (ofT (forest ((ls.take j).map fun e => told e.2))) ys ∧ ys.length = j) (fun _ _ _ h => h.2) hsw hh hfree hcell hk hnames hx hy hp (wpAny_mono hi (fun xv s₁ h => ?_) fun _ _ x => x) hs
  obtain ⟨ax, items, g, m, rfl, hl, hits, hls, hll, B, F, hq⟩ := h
  have hsz : items.size = ls.length := by have := congrArg List.length hits; simpa using this
  refine ⟨ax, items, g, m, rfl, hl, by simp [sizeLine]; omega, ⟨rfl, rfl⟩, F, ?_, ?_⟩
  · intro C j v s₂ m₂ fz ys E' hv hR hfz hC hm kp
    have hj : j < ls.length := by have := (Array.getElem?_eq_some_iff.mp hv).1; omega
    obtain ⟨el, hel⟩ : ∃ el, ls[j]? = some el := ⟨_, List.getElem?_eq_getElem hj⟩
    have hv' : v = .ref el.1 := by
      rw [← Array.getElem?_toList, hits, List.getElem?_map, hel] at hv
      simpa using hv.symm
    subst hv'
    obtain ⟨⟨jts, jn, h1, h2⟩, hok, hsh, hdp, hcn⟩ := hls el (List.mem_of_getElem? hel)
    obtain ⟨X, p, loose, mean, mg, mb, T⟩ := B.keeps kp
    refine elt_fn1 X (topRead_of T) e hF hk hf hx hC hm (by decide +kernel) hd' ?_
    refine told_spec w 2 (B.keeps kp) hh el.2 hdp hr el.1 jts jn (kp _ _ h1) (h2.mono fun _ _ h => kp _ _ h) (by omega) ?_
    intro h' tk fz' ra vs c kp' hnew hra hV
    refine ⟨h', tk, fz', rfl, kp', hnew, ?_, by rw [List.length_append, hR.2]; rfl⟩
    rw [List.take_add_one, hel, List.map_append, forest_app]
    refine Vals_app (hR.1.mono In.right) ⟨ra, vs, c, [], rfl, In.left _ _ hra, hV.mono In.left, rfl⟩
  · intro D h' tk fz ys hD hlD hR hnew F' hN
    refine hq D h' tk fz ys hD hlD ?_ hnew F' hN
    have := hR.1
    rwa [hsz, List.take_length] at this
end
theorem letter_at {g h : Heap} {L : Addr} {fz news : List (Addr × Obj)} (N : News g L h news) (hs : ∀ p ∈ fz, p ∈ news) : ∀ a o, In fz a o → At h a o := fun a o ho => (N (a, o) (hs _ ho)).1
/-- a slice of a list that no name holds -/
theorem slice_temp {value slice : Expr} {g : Heap} {L : Addr} {m : Str → Option Value} {news : List (Addr × Obj)} {l : Addr} {items : Array Value} {k : Nat} {u : Tok} {Q : Value → Shared → Prop} (hk : 1 ≤ k)
    (F : Fr g L s.heap m) (N : News g L s.heap news) (hl : s.heap.IsList l items) (hsz : items.size ≤ 1000000)
    (h : ∀ h' D, Fr g L h' m → News g L h' ((D, listOf (items.toList.take (items.size - k)).toArray 0) :: news) → (∀ p ∈ news, p.1 ≠ D) → Q (.ref D) { s with heap := h' })
    (hs : subscripted slice false (.ref l) (.ref s.heap.objs.size) = operate [.ref s.heap.objs.size, .ref l] (getItem (.ref l) (.ref s.heap.objs.size)) := by with_unfolding_all rfl) :
    wpAny (model PySem.Challenge.rw_sn0117_01.row.prog w) A (subscriptTail value slice (.ref l) (.ref s.heap.objs.size)) Q E { s with heap := s.heap.push { cls := .type "slice", data := .fields #[.none, .int (-(k : Int)) u, .none] } } := by
  refine tail_any (Heap.IsList.typeIs (s := { s with heap := s.heap.push { cls := .type "slice", data := .fields #[.none, .int (-(k : Int)) u, .none] } }) (hl.push _)) list_getitem_lookup
    (wpAny_getItem_list_slice (hl.push _) (Heap.IsSliceOf.new ..) .none (.int _ _) .none (by simp) ?_ (by simp [sizeLine]; omega)) hs
  have N1 := News.push (F.push { cls := .type "slice", data := .fields #[.none, .int (-(k : Int)) u, .none] }) (N.grown fun _ _ e => Heap.get?_push_of_some _ e) { cls := .type "list", data := .seq (slicePick items none (some (-(k : Int))) none) }
  rw [Heap.size_push] at N1
  show Q (.ref (s.heap.push _).objs.size) _
  rw [Heap.size_push]
  rw [slicePick_butLast items k hk] at N1 ⊢
  refine h _ _ ((F.push _).push _) N1 fun p hp => ?_
  have := Heap.lt_size (N p hp).1
  exact Nat.ne_of_lt (Nat.lt_succ_of_lt this)
theorem room_fine {g : Gen} (h1 : g.cnt ≤ 30) (h2 : g.dep ≤ 2) : g.room ≤ 20000 := by
  have h := room_le g
  have h3 : 4 ^ g.dep ≤ 4 ^ 2 := Nat.pow_le_pow_right (by omega) h2
  have h4 : 8 * g.cnt * 4 ^ g.dep ≤ 8 * 30 * 4 ^ 2 := Nat.mul_le_mul (by omega) h3
  have h5 : (8 * 30 * 4 ^ 2 : Nat) = 3840 := by decide
  omega
theorem spool_items {h : Heap} {ls : List (Addr × Draw)} {spI : Array Value} (hspI : spI.toList = ls.map (fun e => Value.ref e.1)) (hls : ∀ e ∈ ls, Letter (At h) e.1 e.2) :
    ∀ (j : Nat) (v : Value), spI[j]? = some v → ∃ (a : Addr) (jts : Array Value) (jn : Nat) (g : Gen) (u : List Nat), v = Value.ref a ∧ h.get? a = some (listOf jts jn) ∧ Vals (At h) g jts.toList ∧ g.dep ≤ 2 ∧ g.Short ∧ g.room ≤ 20000 ∧ (ls.map fun e => wire (told e.2))[j]? = some u ∧ wireG g = u := by
  intro j v hv
  rw [← Array.getElem?_toList, hspI, List.getElem?_map] at hv
  cases he : ls[j]? with
  | none => rw [he] at hv; cases hv
  | some el =>
    rw [he] at hv
    have hv' : v = .ref el.1 := by simpa using hv.symm
    subst hv'
    obtain ⟨⟨jts, jn, h1, h2⟩, hok, hsh, hdp, hcn⟩ := hls el (List.mem_of_getElem? he)
    refine ⟨el.1, jts, jn, ofD el.2, wire (told el.2), rfl, h1, h2, hdp, hsh, room_fine (by omega) hdp, ?_, wireG_D hok⟩
    rw [List.getElem?_map, he]
    rfl
theorem told_items {h : Heap} {ts : List Told} {ys : Array Value} (hV : Vals (At h) (ofT (forest ts)) ys.toList) (hts : ∀ t ∈ ts, Fine t) :
    ∀ (j : Nat) (v : Value), ys[j]? = some v → ∃ (a : Addr) (jts : Array Value) (jn : Nat) (g : Gen) (u : List Nat), v = Value.ref a ∧ h.get? a = some (listOf jts jn) ∧ Vals (At h) g jts.toList ∧ g.dep ≤ 2 ∧ g.Short ∧ g.room ≤ 20000 ∧ (ts.map wire)[j]? = some u ∧ wireG g = u := by
  intro j v hv
  rw [← Array.getElem?_toList] at hv
  obtain ⟨t, a, its, n, ht, rfl, h1, h2⟩ := forest_get hV hv
  obtain ⟨f1, f2, f3, f4, f5⟩ := hts t (List.mem_of_getElem? ht)
  refine ⟨a, its, n, ofT t, wire t, rfl, h1, h2, f4, f3, room_fine (by omega) f4, ?_, wireG_T f1 f2⟩
  rw [List.getElem?_map, ht]
  rfl
theorem wires_len {ts : List Told} (h : ∀ t ∈ ts, Fine t) (hl : ts.length ≤ 15) : (ts.map wire).flatten.length ≤ 12000 := by
  rw [← enc_all]
  have h1 := enc_len (all_short h)
  have h2 := all_len h
  have h3 : (allRows ts).length * (7 + 2) ≤ 1320 * 9 := Nat.mul_le_mul (by omega) (by omega)
  omega
theorem rowsV_of : ∀ {l : List (Str × Tok)} {rows : List (List Nat)}, l.map (·.1) = rows.map (fun r => (⟨r.toArray⟩ : Str)) → RowsV rows (strValues l)
  | [], [], _ => rfl
  | [], r :: rs, h => by cases h
  | (x, t) :: l, [], h => by cases h
  | (x, t) :: l, r :: rs, h => by
    simp only [List.map_cons, List.cons.injEq] at h
    obtain ⟨h1, h2⟩ := h
    subst h1
    exact ⟨t, strValues l, rfl, rowsV_of h2⟩
theorem rows_cut {l : List (Str × Tok)} {rows : List (List Nat)} (hc : ∀ r ∈ rows, Clean r) (h : l.map (·.1) = Txt.split ⟨(enc rows).toArray⟩ ⟨#[13, 10]⟩) :
    (strValues l).toArray.size = rows.length + 1 ∧ RowsV rows ((strValues l).toArray.toList.take ((strValues l).toArray.size - 1)).toArray.toList := by
  rw [split_rows hc] at h
  have h1 : l.length = rows.length + 1 := by have := congrArg List.length h; simpa using this
  have h2 : (strValues l).toArray.size = rows.length + 1 := by rw [← h1]; simp [strValues]
  refine ⟨h2, ?_⟩
  rw [h2]
  have e : ((strValues l).toArray.toList.take (rows.length + 1 - 1)).toArray.toList = strValues (l.take rows.length) := by
    simp [strValues]
  rw [e]
  refine rowsV_of ?_
  rw [List.map_take, h, List.take_append_of_le_length (by simp)]
  exact List.take_of_length_le (by simp)
theorem forest_len {S : Addr → Obj → Prop} : ∀ {ts : List Told} {vs : List Value}, Vals S (ofT (forest ts)) vs → vs.length = ts.length
  | [], _, h => by rw [show _ = [] from h]; rfl
  | t :: ts, _, ⟨a, its, n, vs', e, _, _, h⟩ => by rw [e, List.length_cons, List.length_cons, forest_len h]
theorem lawStart {g h : Heap} {L : Addr} {m : Str → Option Value} {gt ra D : Addr} {rI : Array Value} {xo : Addr × Obj} {oD : Obj} {fzT fz : List (Addr × Obj)} {ts : List Told} {W : Str} {tw tp : Tok}
    (_ : Fr g L h m) (N : News g L h ((gt, listOf #[] 0) :: (ra, listOf rI 0) :: xo :: (D, oD) :: (fzT ++ fz))) (hlt : ra < gt ∧ xo.1 < gt ∧ D < gt ∧ AllLt gt (fzT ++ fz))
    (mg : m (Str.ofString "got") = some (.ref gt)) (mp : m (Str.ofString "place") = some (.int 0 tp)) (mr : m (Str.ofString "rows") = some (.ref ra)) (mt : m (Str.ofString "told") = some (.ref D)) (mw : m (Str.ofString "wire") = some (.str W tw)) :
    ∃ fx, (ra, listOf rI 0) ∈ fx ∧ (D, oD) ∈ fx ∧ (∀ p ∈ fzT, p ∈ fx) ∧ News g L h ((gt, listOf #[] 0) :: fx) ∧ LawJ ts ra D W tw fx 0 g m ((gt, listOf #[] 0) :: fx) := by
  have hl := allLt_mem (l := (ra, listOf rI 0) :: xo :: (D, oD) :: (fzT ++ fz)) hlt
  exact ⟨(ra, listOf rI 0) :: xo :: (D, oD) :: (fzT ++ fz), List.mem_cons_self .., by simp, fun p hp => by simp [hp], N, gt, #[], 0, [], tp, mg, mp, mr, mt, mw, rfl, rfl, rfl, fun p hp => Nat.ne_of_lt (hl p hp), Nat.zero_le _⟩
theorem law_01 : PySem.Challenge.rw_sn0117_01.Holds := hd (by
  k_go0
  all_goals (try k_fold)
  k_steps
  unfold Halt
  (with_reducible rename Fr _ _ _ _ => F)
  (with_reducible rename News _ _ _ _ => N)
  (with_reducible rename Top _ _ _ _ _ _ => T)
  (with_reducible rename (Frag.In _ _) => X)
  (with_reducible rename Heap.IsList _ _ _ => hL)
  (with_reducible rename IntsAre _ _ => hI)
  (with_reducible rename ¬ _ < _ => hcond)
  have Bg : Base _ _ := ⟨X, _, _, _, _, _, T⟩
  refine' spool_spec ?kb rfl ?kd _ _ _ (hL.at fun o e => F.keep _ o e) ?ki ?kn ?_
  case kb => exact Bg.keeps F.keep
  case kd => rw [depth_deeper, depth_caller]; decide
  case ki => simpa using hI
  case kn => omega
  intro h₂ tk fz sp spI spn ls kp₂ hnew hsp hspI hls hll
  have N₂ : News _ _ h₂ fz := fun p hp => fresh_news F (hnew p hp).1 (hnew p hp).2
  have F₂ := F.keptAll kp₂
  clear F N
  (with_reducible rename World => ww)
  have hF : FnAt (hd.heap_39 ww.params) 98 _ _ := ⟨_, _, _, _, by k_is, rfl, rfl⟩
  k_steps
  unfold Halt
  (with_reducible rename Fr _ _ _ _ => F₃)
  (with_reducible rename News _ _ _ _ => N₃)
  refine told_assign ls rfl rfl (by rw [depth_deeper, depth_caller]; decide) (by decide +kernel) (by decide +kernel) rfl (by decide +kernel) (by rfl) (by rfl) (by decide +kernel) rfl rfl (by k_is) ?_
  k_steps
  unfold Halt
  refine ⟨sp, spI, _, _, rfl, isList_of (N₃ _ hsp).1, hspI, fun e he => (hls e he).mono (letter_at N₃ fun _ h => h), hll, Bg.keeps F₃.keep, F₃, ?_⟩
  intro D h₄ tk₄ fzT ys hD hlD hVT hnewT F₄ hN₄
  obtain ⟨oD, hoD, hcD, nD, hdD⟩ := hlD
  have N₄ := newsCon (a := (D, oD)) (fresh_news F₃ hoD hD) (News.append (fun p hp => fresh_news F₃ (hnewT p hp).1 (hnewT p hp).2) (hN₄ _ N₃))
  clear F₃ N₃
  k_steps
  unfold Halt
  generalize hts : (ls.map fun e => told e.2) = ts at hVT
  have hfine : ∀ t ∈ ts, Fine t := by
    intro t ht
    rw [← hts] at ht
    obtain ⟨e, he, rfl⟩ := List.mem_map.mp ht
    obtain ⟨_, h1, h2, h3, h4⟩ := hls e he
    exact fine_told h1 h2 h3 h4
  have htl : ts.length ≤ 15 := by rw [← hts, List.length_map]; exact hll
  have hus : (ls.map fun e => wire (told e.2)) = ts.map wire := by rw [← hts, List.map_map]; rfl
  have hW := wires_len hfine htl
  refine comp_wire (ts.map wire) rfl (by rw [depth_deeper, depth_caller]; decide) (by decide +kernel) (by decide +kernel) rfl (by decide +kernel) (by rfl) (by rfl) (by decide +kernel) (by k_is) ?_
  k_steps
  unfold Halt
  refine ⟨sp, spI, rfl, isList_of (N₄ (sp, listOf spI spn) (by simp; exact .inr (.inr hsp))).1, ?_, by simp; omega, Bg.keeps F₄.keep, ?_, ?_⟩
  · have h1 := congrArg List.length hspI
    rw [← hts]
    simpa using h1
  · rw [← hus]
    exact spool_items hspI fun e he => (hls e he).mono (letter_at N₄ fun p hp => by simp [hp])
  intro D₅ h₅ tk₅ l₅ hD₅ hl₅ hlm kp₅
  have F₅ := F₄.keptAll kp₅
  have N₅ := N₄.grown kp₅
  clear F₄ N₄
  k_steps
  unfold Halt
  rw [show Str.ofString "" = ⟨#[]⟩ from by decide +kernel]
  refine join_texts hl₅ hlm (by rw [List.length_map]; omega) fun t₆ tk₆ => ?_
  clear hl₅ hlm
  k_steps
  unfold Halt
  (with_reducible rename Fr _ _ _ _ => F₇)
  (with_reducible rename News _ _ _ _ => N₇)
  (with_reducible rename (List.map _ _ = Txt.split _ _) => hsplit)
  rw [← enc_all, show Str.ofString "\r\n" = ⟨#[13, 10]⟩ from by decide +kernel] at hsplit
  obtain ⟨hsz7, hrows⟩ := rows_cut (all_clean hfine) hsplit
  have hall := all_len hfine
  refine slice_temp (s := ⟨_, _, _, _, _⟩) (k := 1) (by decide) F₇ N₇ (isList_of (newsHd N₇).1) (by omega) ?_
  intro h₈ ra F₈ N₈ hne₈
  clear F₇ N₇
  k_steps
  unfold Halt
  (with_reducible rename Fr _ _ _ _ => F₉)
  (with_reducible rename News _ _ _ _ => N₉)
  (with_reducible rename (_ ∧ _) => hlt₉)
  obtain ⟨fx, hraM, hDM, hTM, N₁₀, hJ⟩ := lawStart (ts := ts) F₉ N₉ hlt₉ (look_ne (by decide +kernel) (if_pos rfl)) (if_pos rfl) (look_ne (by decide +kernel) (look_ne (by decide +kernel) (if_pos rfl))) (look_ne (by decide +kernel) (look_ne (by decide +kernel) (look_ne (by decide +kernel) (look_ne (by decide +kernel) (if_pos rfl))))) (look_ne (by decide +kernel) (look_ne (by decide +kernel) (look_ne (by decide +kernel) (if_pos rfl))))
  refine while_grow (LawJ ts ra D ⟨(ts.map wire).flatten.toArray⟩ t₆ fx) (LawJ ts ra D ⟨(ts.map wire).flatten.toArray⟩ t₆ fx ts.length) ts.length F₉ N₁₀ hJ ?_ ?_
  · clear F₉ N₉ N₁₀ hJ
    intro i g₁ m₁ news₁ h₁₀ tk₁₀ hi hJ kg F₁₀ N₁₀
    exact turnLaw hF rfl (by rw [depth_deeper, depth_caller]; decide) Bg kg hraM hrows hfine htl hJ F₁₀ N₁₀ _
  clear F₉ N₉ N₁₀ hJ
  rintro g₁ h₁₀ tk₁₀ m₁ news₁ kg₁ F₁₀ N₁₀ ⟨gt, gI, c, fzg, tp, mg', mp, mr, mt, mw, rfl, hVg, -, hneg, -⟩
  rw [List.take_length] at hVg
  have X₁ := X.keeps kg₁
  have T₁ := T.keeps kg₁
  k_steps
  unfold Halt
  obtain ⟨as1, r1⟩ := reads_T (hVg.mono (letter_at N₁₀ fun p hp => by simp [hp]))
  obtain ⟨as2, r2⟩ := reads_T (hVT.mono (letter_at N₁₀ fun p hp => by simp [hTM p hp]))
  have hff := forest_fine hfine
  have hcan : PyData.canLay0 (.list (dataT (forest ts))) = true := can_T hff.1
  have hdep : PyData.depth (.list (dataT (forest ts))) ≤ 4 := by
    have := depth_T (forest ts)
    have := hff.2
    simp only [PyData.depth]
    omega
  refine SeqAt.compareNe_reads (Reads.list (newsHd N₁₀).1 rfl rfl r1) (Reads.list (N₁₀ (D, oD) (by simp [hDM])).1 hcD hdD r2) hcan hcan ?_ ?_
  · refine Nat.lt_of_le_of_lt (Nat.add_le_add_left (Nat.le_trans (Nat.min_le_left _ _) hdep) _) ?_
    show 4 + 3 + 4 < cLine
    decide
  rw [SeqAt.eqv_refl _ hcan]
  k_steps
  unfold Halt
  (with_reducible rename Fr _ _ _ _ => F₁₁)
  (with_reducible rename News _ _ _ _ => N₁₁)
  refine comp_wire (ts.map wire) rfl (by rw [depth_deeper, depth_caller]; decide) (by decide +kernel) (by decide +kernel) rfl (by decide +kernel) (by rfl) (by rfl) (by decide +kernel) (by k_is) ?_
  k_steps
  unfold Halt
  refine ⟨D, ys, rfl, ⟨oD, (N₁₁ (D, oD) (by simp [hDM])).1, hcD, nD, hdD⟩, ?_, by simp; omega, Bg.keeps (kg₁.trans F₁₁.keep), told_items (hVT.mono (letter_at N₁₁ fun p hp => by simp [hTM p hp])) hfine, ?_⟩
  · rw [List.length_map, ← forest_len hVT, Array.length_toList]
  intro D₁₂ h₁₂ tk₁₂ l₁₂ hD₁₂ hl₁₂ hlm kp₁₂
  have F₁₂ := F₁₁.keptAll kp₁₂
  have N₁₂ := N₁₁.grown kp₁₂
  clear F₁₁ N₁₁
  k_steps
  unfold Halt
  refine join_texts hl₁₂ hlm (by rw [List.length_map]; omega) fun t₁₃ tk₁₃ => ?_
  clear hl₁₂ hlm
  k_steps
  rw [beq_self_eq_true]
  refine goodW_bool (L := _) (m := m₁) ⟨F₁₂.ns, fun b o e => F₁₂.keep b o (kg₁ _ _ e), Nat.le_refl _⟩ (by assumption) (raisesW_false (by wrow_none_raised)) ?_
  wrow_post)

end
end Mine

theorem PySem.Challenge.cw_sn0117_01_holds : PySem.Challenge.rw_sn0117_01.Holds := by
  exact Mine.law_01
