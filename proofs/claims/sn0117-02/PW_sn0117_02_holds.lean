import PyProof.Rows.All
import Wide.All
import OpenK.AllK
import Wide.FinOn
import Lean
import PySem.Challenge.RW_sn0117_02
set_option Elab.async false
set_option maxRecDepth 100000
set_option maxHeartbeats 8000000

section
namespace Mine
open PySem PySem.Sre

def it : Nat → M → M
  | 0, m => m
  | n + 1, m => it n m.step
theorem step_done {m : M} (h : m.outcome.isSome = true) : m.step = m := by unfold M.step; rw [if_pos h]
theorem it_done {m : M} (h : m.outcome.isSome = true) : ∀ n, it n m = m
  | 0 => rfl
  | n + 1 => by rw [it, step_done h]; exact it_done h n
theorem runFor_it : ∀ (n : Nat) (m : M), M.runFor n m = it n m
  | 0, _ => rfl
  | n + 1, m => by
    unfold M.runFor
    by_cases h : m.outcome.isSome = true
    · rw [if_pos h, it_done h]
    · rw [if_neg h, it]; exact runFor_it n _
theorem it_add : ∀ (a b : Nat) (m : M), it (a + b) m = it b (it a m)
  | 0, b, m => by rw [Nat.zero_add]; rfl
  | a + 1, b, m => by rw [Nat.succ_add, it, it]; exact it_add a b _

def codeDot : Array Nat := #[14, 4, 0, 1, 1, 6, 1, 16, 46, 1]
def codeEol : Array Nat := #[14, 9, 4, 1, 2, 16, 10, 16, 13, 0, 7, 7, 16, 13, 16, 10, 15, 18, 5, 16, 10, 15, 13, 11, 16, 13, 5, 5, 0, 16, 10, 1, 15, 2, 0, 1]

/-- the machine at the start of an attempt at q -/
@[reducible] def St (code text : Array Nat) (pc q : Nat) (o : Bool) (seen : Seen) : M :=
  { code, text, lim := text.size, start := q, lastStart := text.size, pc, pos := q, handed := q, outermost := o, marks := #[],
    frames := [{ wait := .nextStart, pc, pos := q, outermost := o }], weight := 1, seen }

def atBol (text : Array Nat) (q : Nat) : Bool := q == 0 || text.getD (q - 1) 0 == 10
def isDot (text : Array Nat) (q : Nat) : Bool := text.getD q 0 == 46

/-- an end: matched from q to e -/
def Hit (m : M) (q e : Nat) : Prop := (∃ s, m.outcome = some s ∧ s = .matched) ∧ m.start = q ∧ m.handed = e
def Miss (m : M) : Prop := ∃ s, m.outcome = some s ∧ s = .failed

theorem dot_at (text : Array Nat) (q : Nat) (o : Bool) (seen : Seen) :
    (St codeDot text 5 q o seen).step = (if atBol text q then { St codeDot text 5 q o ((seen.add 6).add 44) with pc := 7 } else { St codeDot text 5 q o ((seen.add 6).add 44) with answer := some false }) := by
  rfl

theorem dot_lit (text : Array Nat) (q : Nat) (o : Bool) (seen : Seen) :
    ({ St codeDot text 5 q o seen with pc := 7 } : M).step = (if q ≥ text.size then { St codeDot text 5 q o (seen.add 16) with pc := 7, answer := some false } else if isDot text q then { St codeDot text 5 q o (seen.add 16) with pc := 9, pos := q + 1 } else { St codeDot text 5 q o (seen.add 16) with pc := 7, answer := some false }) := by
  by_cases h : q ≥ text.size
  · rw [if_pos h]
    show (if q ≥ text.size then _ else _) = _
    rw [if_pos h]; rfl
  · rw [if_neg h]
    show (if q ≥ text.size then _ else _) = _
    rw [if_neg h]
    show (match (Except.ok (isDot text q, (seen.add 16)) : Except String (Bool × Seen)) with | .error why => _ | .ok (false, seen) => _ | .ok (true, seen) => _) = _
    cases isDot text q <;> rfl

theorem dot_ok (text : Array Nat) (q : Nat) (o : Bool) (seen : Seen) :
    Hit (it 4 ({ St codeDot text 5 q o seen with pc := 9, pos := q + 1 } : M)) q (q + 1) := by
  refine ⟨⟨_, ?_, rfl⟩, ?_, ?_⟩
  · cases o <;> rfl
  · cases o <;> rfl
  · cases o <;> rfl
theorem dot_no (text : Array Nat) (q : Nat) (o : Bool) (seen : Seen) (pc : Nat) :
    it 1 ({ St codeDot text 5 q o seen with pc := pc, answer := some false } : M) = (if q < text.size then St codeDot text 5 (q + 1) false seen else { St codeDot text 5 q o seen with frames := [], weight := 0, answer := some false }) := by
  show (if q < text.size then _ else _) = _
  by_cases h : q < text.size
  · rw [if_pos h, if_pos h]; rfl
  · rw [if_neg h, if_neg h]; rfl
theorem dot_end (text : Array Nat) (q : Nat) (o : Bool) (seen : Seen) : Miss (it 1 ({ St codeDot text 5 q o seen with frames := [], weight := 0, answer := some false } : M)) := ⟨_, rfl, rfl⟩

theorem Hit.it {m : M} {q e : Nat} (h : Hit m q e) (n : Nat) : Hit (Mine.it n m) q e := by
  obtain ⟨⟨s, h1, h2⟩, h3⟩ := h
  rw [it_done (by rw [h1]; rfl)]
  exact ⟨⟨s, h1, h2⟩, h3⟩
theorem Miss.it {m : M} (h : Miss m) (n : Nat) : Miss (Mine.it n m) := by
  obtain ⟨s, h1, h2⟩ := h
  rw [it_done (by rw [h1]; rfl)]
  exact ⟨s, h1, h2⟩

/-- one attempt that fails -/
theorem dot_fail (text : Array Nat) (q : Nat) (o : Bool) (seen : Seen) (hq : q < text.size) (hn : (atBol text q && isDot text q) = false) :
    ∃ n seen', n ≤ 3 ∧ it n (St codeDot text 5 q o seen) = St codeDot text 5 (q + 1) false seen' := by
  cases h1 : atBol text q with
  | false =>
    refine ⟨2, ((seen.add 6).add 44), by decide, ?_⟩
    show it 1 (St codeDot text 5 q o seen).step = _
    rw [dot_at, h1]
    show it 1 _ = _
    rw [if_neg (by decide)]
    exact (dot_no text q o _ 5).trans (if_pos hq)
  | true =>
    rw [h1, Bool.true_and] at hn
    refine ⟨3, ((seen.add 6).add 44).add 16, by decide, ?_⟩
    show it 2 (St codeDot text 5 q o seen).step = _
    rw [dot_at, h1, if_pos rfl]
    show it 1 ({ St codeDot text 5 q o ((seen.add 6).add 44) with pc := 7 } : M).step = _
    rw [dot_lit, if_neg (Nat.not_le.mpr hq), hn, if_neg (by decide)]
    exact (dot_no text q o _ 7).trans (if_pos hq)
theorem dot_past (text : Array Nat) (q : Nat) (o : Bool) (seen : Seen) (hq : ¬ q < text.size) :
    ∃ n, n ≤ 4 ∧ Miss (it n (St codeDot text 5 q o seen)) := by
  cases h1 : atBol text q with
  | false =>
    refine ⟨3, by decide, ?_⟩
    show Miss (it 2 (St codeDot text 5 q o seen).step)
    rw [dot_at, h1, if_neg (by decide), show 2 = 1 + 1 from rfl, it_add]
    rw [(dot_no text q o _ 5).trans (if_neg hq)]
    exact dot_end text q o _
  | true =>
    refine ⟨4, by decide, ?_⟩
    show Miss (it 3 (St codeDot text 5 q o seen).step)
    rw [dot_at, h1, if_pos rfl]
    show Miss (it 2 ({ St codeDot text 5 q o ((seen.add 6).add 44) with pc := 7 } : M).step)
    rw [dot_lit, if_pos (Nat.not_lt.mp hq), show 2 = 1 + 1 from rfl, it_add]
    rw [(dot_no text q o _ 7).trans (if_neg hq)]
    exact dot_end text q o _
theorem dot_hit (text : Array Nat) (q : Nat) (o : Bool) (seen : Seen) (hq : q < text.size) (hn : (atBol text q && isDot text q) = true) :
    Hit (it 6 (St codeDot text 5 q o seen)) q (q + 1) := by
  obtain ⟨h1, h2⟩ := Bool.and_eq_true_iff.mp hn
  show Hit (it 5 (St codeDot text 5 q o seen).step) q (q + 1)
  rw [dot_at, h1, if_pos rfl]
  show Hit (it 4 ({ St codeDot text 5 q o ((seen.add 6).add 44) with pc := 7 } : M).step) q (q + 1)
  rw [dot_lit, if_neg (Nat.not_le.mpr hq), h2, if_pos rfl]
  exact dot_ok text q o _

/-- the run from an attempt at p: the first place from p on at which `ok` holds -/
def firstFrom (ok : Nat → Bool) (size : Nat) : Nat → Nat → Option Nat
  | 0, _ => none
  | n + 1, p => if p < size then (if ok p then some p else firstFrom ok size n (p + 1)) else none

def dotOk (text : Array Nat) (q : Nat) : Bool := atBol text q && isDot text q
theorem dot_run (text : Array Nat) : ∀ (k p : Nat) (o : Bool) (seen : Seen), text.size < p + k → ∃ n, n ≤ 6 * k + 6 ∧
    (match firstFrom (dotOk text) text.size k p with
      | some q => Hit (it n (St codeDot text 5 p o seen)) q (q + 1)
      | none => Miss (it n (St codeDot text 5 p o seen)))
  | 0, p, o, seen, h => by
    obtain ⟨n, h1, h2⟩ := dot_past text p o seen (by omega)
    exact ⟨n, by omega, h2⟩
  | k + 1, p, o, seen, h => by
    unfold firstFrom
    by_cases hp : p < text.size
    · rw [if_pos hp]
      cases hd : dotOk text p with
      | true =>
        rw [if_pos rfl]
        exact ⟨6, by omega, dot_hit text p o seen hp hd⟩
      | false =>
        rw [if_neg (by decide)]
        obtain ⟨n, seen', h1, h2⟩ := dot_fail text p o seen hp hd
        obtain ⟨n', h3, h4⟩ := dot_run text k (p + 1) false seen' (by omega)
        refine ⟨n + n', by omega, ?_⟩
        rw [it_add, h2]
        exact h4
    · rw [if_neg hp]
      obtain ⟨n, h1, h2⟩ := dot_past text p o seen hp
      exact ⟨n, by omega, h2⟩

theorem dot_search (text : Array Nat) (p : Nat) (hp : p ≤ text.size) : ∃ n, n ≤ 6 * (text.size + 2) ∧
    (match firstFrom (dotOk text) text.size (text.size + 1 - p) p with
      | some q => Hit (it n (forSearch codeDot text 0 p text.size false)) q (q + 1)
      | none => Miss (it n (forSearch codeDot text 0 p text.size false))) := by
  by_cases h : p = text.size
  · subst h
    have e : firstFrom (dotOk text) text.size (text.size + 1 - text.size) text.size = none := by
      rw [show text.size + 1 - text.size = 0 + 1 by omega]; unfold firstFrom; rw [if_neg (Nat.lt_irrefl _)]
    rw [e]
    refine ⟨1, by omega, ?_⟩
    have e2 : forSearch codeDot text 0 text.size text.size false = ({ ({ code := codeDot, text, lim := text.size, start := text.size, pc := 5, pos := text.size, handed := text.size, marks := #[], seen := ({} : Seen).add 14 } : M) with answer := some false } : M) := by
      show (if (decide (text.size > text.size) || decide (text.size - text.size < 1)) = true then _ else _) = _
      rw [if_pos (by simp)]; rfl
    rw [e2]
    exact ⟨_, rfl, rfl⟩
  · obtain ⟨n, h1, h2⟩ := dot_run text (text.size + 1 - p) p true (({} : Seen).add 14) (by omega)
    refine ⟨n, by omega, ?_⟩
    have e2 : forSearch codeDot text 0 p text.size false = St codeDot text 5 p true (({} : Seen).add 14) := by
      show (if (decide (p > text.size) || decide (text.size - p < 1)) = true then _ else _) = _
      rw [if_neg (by simp; omega)]; rfl
    rw [e2]
    exact h2
end Mine
end

section
namespace Mine
open PySem PySem.Sre

def E (text : Array Nat) (q pc pos hd : Nat) (out : Bool) (fr : List Sre.Frame) (wt : Nat) (ans : Option Bool) (seen : Seen) : M :=
  { code := codeEol, text, lim := text.size, start := q, lastStart := text.size, pc, pos, handed := hd, outermost := out, marks := #[], frames := fr, weight := wt, seen, answer := ans }
def fS (q : Nat) (o : Bool) : Sre.Frame := { wait := .nextStart, pc := 10, pos := q, outermost := o }
def fB (a q : Nat) (o : Bool) : Sre.Frame := { wait := .nextBranch, pc := a, pos := q, outermost := o }
def fL (q : Nat) (o : Bool) : Sre.Frame := { wait := .lookNot, pc := 26, pos := q, outermost := o }
section
variable (text : Array Nat) (q pos hd : Nat) (out o : Bool) (fr : List Sre.Frame) (wt : Nat) (seen : Seen)
theorem E_lit12 : (E text q 12 pos hd out fr wt none seen).step = (if pos ≥ text.size then E text q 12 pos hd out fr wt (some false) (seen.add 16) else if text.getD pos 0 == 13 then E text q 14 (pos + 1) hd out fr wt none (seen.add 16) else E text q 12 pos hd out fr wt (some false) (seen.add 16)) := by
  by_cases h : pos ≥ text.size
  · rw [if_pos h]
    show (if pos ≥ text.size then _ else _) = _
    rw [if_pos h]; rfl
  · rw [if_neg h]
    show (if pos ≥ text.size then _ else _) = _
    rw [if_neg h]
    show (match (Except.ok (text.getD pos 0 == 13, (seen.add 16)) : Except String (Bool × Seen)) with | .error why => _ | .ok (false, seen) => _ | .ok (true, seen) => _) = _
    cases (text.getD pos 0 == 13) <;> rfl
theorem E_lit14 : (E text q 14 pos hd out fr wt none seen).step = (if pos ≥ text.size then E text q 14 pos hd out fr wt (some false) (seen.add 16) else if text.getD pos 0 == 10 then E text q 16 (pos + 1) hd out fr wt none (seen.add 16) else E text q 14 pos hd out fr wt (some false) (seen.add 16)) := by
  by_cases h : pos ≥ text.size
  · rw [if_pos h]
    show (if pos ≥ text.size then _ else _) = _
    rw [if_pos h]; rfl
  · rw [if_neg h]
    show (if pos ≥ text.size then _ else _) = _
    rw [if_neg h]
    show (match (Except.ok (text.getD pos 0 == 10, (seen.add 16)) : Except String (Bool × Seen)) with | .error why => _ | .ok (false, seen) => _ | .ok (true, seen) => _) = _
    cases (text.getD pos 0 == 10) <;> rfl
theorem E_lit19 : (E text q 19 pos hd out fr wt none seen).step = (if pos ≥ text.size then E text q 19 pos hd out fr wt (some false) (seen.add 16) else if text.getD pos 0 == 10 then E text q 21 (pos + 1) hd out fr wt none (seen.add 16) else E text q 19 pos hd out fr wt (some false) (seen.add 16)) := by
  by_cases h : pos ≥ text.size
  · rw [if_pos h]
    show (if pos ≥ text.size then _ else _) = _
    rw [if_pos h]; rfl
  · rw [if_neg h]
    show (if pos ≥ text.size then _ else _) = _
    rw [if_neg h]
    show (match (Except.ok (text.getD pos 0 == 10, (seen.add 16)) : Except String (Bool × Seen)) with | .error why => _ | .ok (false, seen) => _ | .ok (true, seen) => _) = _
    cases (text.getD pos 0 == 10) <;> rfl
theorem E_lit24 : (E text q 24 pos hd out fr wt none seen).step = (if pos ≥ text.size then E text q 24 pos hd out fr wt (some false) (seen.add 16) else if text.getD pos 0 == 13 then E text q 26 (pos + 1) hd out fr wt none (seen.add 16) else E text q 24 pos hd out fr wt (some false) (seen.add 16)) := by
  by_cases h : pos ≥ text.size
  · rw [if_pos h]
    show (if pos ≥ text.size then _ else _) = _
    rw [if_pos h]; rfl
  · rw [if_neg h]
    show (if pos ≥ text.size then _ else _) = _
    rw [if_neg h]
    show (match (Except.ok (text.getD pos 0 == 13, (seen.add 16)) : Except String (Bool × Seen)) with | .error why => _ | .ok (false, seen) => _ | .ok (true, seen) => _) = _
    cases (text.getD pos 0 == 13) <;> rfl
theorem E_lit29 : (E text q 29 pos hd out fr wt none seen).step = (if pos ≥ text.size then E text q 29 pos hd out fr wt (some false) (seen.add 16) else if text.getD pos 0 == 10 then E text q 31 (pos + 1) hd out fr wt none (seen.add 16) else E text q 29 pos hd out fr wt (some false) (seen.add 16)) := by
  by_cases h : pos ≥ text.size
  · rw [if_pos h]
    show (if pos ≥ text.size then _ else _) = _
    rw [if_pos h]; rfl
  · rw [if_neg h]
    show (if pos ≥ text.size then _ else _) = _
    rw [if_neg h]
    show (match (Except.ok (text.getD pos 0 == 10, (seen.add 16)) : Except String (Bool × Seen)) with | .error why => _ | .ok (false, seen) => _ | .ok (true, seen) => _) = _
    cases (text.getD pos 0 == 10) <;> rfl
theorem E_jump16 : (E text q 16 pos hd out fr wt none seen).step = E text q 35 pos hd out fr wt none (seen.add 15) := rfl
theorem E_jump21 : (E text q 21 pos hd out fr wt none seen).step = E text q 35 pos hd out fr wt none (seen.add 15) := rfl
theorem E_jump32 : (E text q 32 pos hd out fr wt none seen).step = E text q 35 pos hd out fr wt none (seen.add 15) := rfl
theorem E_branch : (E text q 10 q q o [fS q o] 1 none seen).step = E text q 12 q q o [fB 11 q o, fS q o] 2 none (seen.add 7) := rfl
theorem E_next1 (pc : Nat) : (E text q pc pos hd out [fB 11 q o, fS q o] 2 (some false) seen).step = E text q 19 q q o [fB 18 q o, fS q o] 2 none seen := rfl
theorem E_next2 (pc : Nat) : (E text q pc pos hd out [fB 18 q o, fS q o] 2 (some false) seen).step = E text q 24 q q o [fB 23 q o, fS q o] 2 none seen := rfl
theorem E_look : (E text q 26 pos hd o [fB 23 q o, fS q o] 2 none seen).step = E text q 29 pos pos false [fL pos o, fB 23 q o, fS q o] 3 none (seen.add 5) := rfl
theorem E_lookNo (pc p : Nat) : (E text q pc p hd out [fL pos o, fB 23 q o, fS q o] 3 (some false) seen).step = E text q 32 pos hd o [fB 23 q o, fS q o] 2 none seen := rfl
theorem E_ok (a : Nat) : Hit (it 4 (E text q 35 pos hd o [fB a q o, fS q o] 2 none seen)) q pos := by
  refine ⟨⟨_, ?_, rfl⟩, ?_, ?_⟩
  · cases o <;> rfl
  · cases o <;> rfl
  · cases o <;> rfl
end

def eolEnd (text : Array Nat) (q : Nat) : Nat := if text.getD q 0 == 13 && (decide (q + 1 < text.size) && text.getD (q + 1) 0 == 10) then q + 2 else q + 1
def isEol (text : Array Nat) (q : Nat) : Bool := text.getD q 0 == 10 || text.getD q 0 == 13

theorem it_succ {n : Nat} {m : M} : it (n + 1) m = it n m.step := rfl
theorem E_hit (text : Array Nat) (q : Nat) (o : Bool) (seen : Seen) (hq : q < text.size) (he : isEol text q = true) :
    ∃ n, n ≤ 20 ∧ Hit (it n (E text q 10 q q o [fS q o] 1 none seen)) q (eolEnd text q) := by
  have hq' : ¬ q ≥ text.size := Nat.not_le.mpr hq
  unfold eolEnd
  cases h13 : (text.getD q 0 == 13) with
  | true =>
    have h10 : (text.getD q 0 == 10) = false := by rw [beq_iff_eq.mp h13]; rfl
    by_cases hn : q + 1 < text.size ∧ (text.getD (q + 1) 0 == 10) = true
    · rw [if_pos (by rw [decide_eq_true hn.1, hn.2]; rfl)]
      refine ⟨8, by decide, ?_⟩
      rw [it_succ, E_branch, it_succ, E_lit12, if_neg hq', if_pos h13, it_succ, E_lit14, if_neg (Nat.not_le.mpr hn.1), if_pos hn.2, it_succ, E_jump16]
      exact E_ok ..
    · rw [if_neg (by intro h; rw [Bool.true_and, Bool.and_eq_true, decide_eq_true_eq] at h; exact hn h)]
      have hl : ∀ (fr : List Sre.Frame) (wt hd : Nat) (out : Bool) (seen : Seen), (E text q 14 (q + 1) hd out fr wt none seen).step = E text q 14 (q + 1) hd out fr wt (some false) (seen.add 16) := by
        intro fr wt hd out seen
        rw [E_lit14]
        by_cases h1 : q + 1 ≥ text.size
        · rw [if_pos h1]
        · rw [if_neg h1, if_neg fun h => hn ⟨Nat.not_le.mp h1, h⟩]
      have hl2 : ∀ (fr : List Sre.Frame) (wt hd : Nat) (out : Bool) (seen : Seen), (E text q 29 (q + 1) hd out fr wt none seen).step = E text q 29 (q + 1) hd out fr wt (some false) (seen.add 16) := by
        intro fr wt hd out seen
        rw [E_lit29]
        by_cases h1 : q + 1 ≥ text.size
        · rw [if_pos h1]
        · rw [if_neg h1, if_neg fun h => hn ⟨Nat.not_le.mp h1, h⟩]
      refine ⟨15, by decide, ?_⟩
      rw [it_succ, E_branch, it_succ, E_lit12, if_neg hq', if_pos h13, it_succ, hl, it_succ, E_next1, it_succ, E_lit19, if_neg hq', if_neg (by rw [h10]; decide), it_succ, E_next2, it_succ, E_lit24, if_neg hq', if_pos h13, it_succ, E_look, it_succ, hl2, it_succ, E_lookNo, it_succ, E_jump32]
      exact E_ok ..
  | false =>
    have h10 : (text.getD q 0 == 10) = true := by unfold isEol at he; rw [h13, Bool.or_false] at he; exact he
    rw [if_neg (by simp)]
    refine ⟨9, by decide, ?_⟩
    rw [it_succ, E_branch, it_succ, E_lit12, if_neg hq', if_neg (by rw [h13]; decide), it_succ, E_next1, it_succ, E_lit19, if_neg hq', if_pos h10, it_succ, E_jump21]
    exact E_ok ..

theorem eol_inSet (c : Nat) (seen : Seen) : ∃ seen', inSet codeEol c 36 5 true seen = .ok (c == 10 || c == 13, seen') := by
  have e : inSet codeEol c 36 5 true seen = (if (c == 10) = true then .ok (true, seen.add 16) else if (c == 13) = true then .ok (true, (seen.add 16).add 16) else .ok (false, ((seen.add 16).add 16).add 0)) := rfl
  rw [e]
  cases (c == 10) with
  | true => exact ⟨_, rfl⟩
  | false => cases (c == 13) <;> exact ⟨_, rfl⟩
theorem eol_admitted {m : M} {text : Array Nat} (hc : m.code = codeEol) (ht : m.text = text) (hl : m.lim = text.size) : ∀ (k s : Nat) (seen : Seen),
    ∃ seen', m.admitted k s seen = .ok (firstFrom (isEol text) text.size k s, seen')
  | 0, s, seen => ⟨seen, rfl⟩
  | k + 1, s, seen => by
    unfold M.admitted firstFrom
    rw [hl]
    by_cases h : s < text.size
    · rw [if_neg (Nat.not_le.mpr h), if_pos h, hc, ht]
      obtain ⟨seen', e⟩ := eol_inSet (text.getD s 0) seen
      have e' : inSet codeEol (text.getD s 0) codeEol.size 5 true seen = _ := e
      rw [e']
      unfold isEol
      cases (text.getD s 0 == 10 || text.getD s 0 == 13) with
      | true => exact ⟨seen', rfl⟩
      | false => exact eol_admitted hc ht hl k (s + 1) seen'
    · rw [if_pos (Nat.not_lt.mp h), if_neg h]; exact ⟨seen, rfl⟩

theorem firstFrom_ok {ok : Nat → Bool} {size : Nat} : ∀ {k p q : Nat}, firstFrom ok size k p = some q → p ≤ q ∧ q < size ∧ ok q = true ∧ ∀ j, p ≤ j → j < q → ok j = false
  | 0, _, _, h => by cases h
  | k + 1, p, q, h => by
    unfold firstFrom at h
    by_cases hp : p < size
    · rw [if_pos hp] at h
      cases ho : ok p with
      | true =>
        rw [ho, if_pos rfl] at h
        cases h
        exact ⟨Nat.le_refl _, hp, ho, fun j h1 h2 => by omega⟩
      | false =>
        rw [ho, if_neg (by decide)] at h
        obtain ⟨h1, h2, h3, h4⟩ := firstFrom_ok h
        refine ⟨by omega, h2, h3, fun j h5 h6 => ?_⟩
        by_cases hj : j = p
        · subst hj; exact ho
        · exact h4 j (by omega) h6
    · rw [if_neg hp] at h; cases h
theorem firstFrom_none {ok : Nat → Bool} {size : Nat} : ∀ {k p : Nat}, size ≤ p + k → firstFrom ok size k p = none → ∀ j, p ≤ j → j < size → ok j = false
  | 0, p, hs, _, j, h1, h2 => by omega
  | k + 1, p, hs, h, j, h1, h2 => by
    unfold firstFrom at h
    by_cases hp : p < size
    · rw [if_pos hp] at h
      cases ho : ok p with
      | true => rw [ho, if_pos rfl] at h; cases h
      | false =>
        rw [ho, if_neg (by decide)] at h
        by_cases hj : j = p
        · subst hj; exact ho
        · exact firstFrom_none (by omega) h j (by omega) h2
    · omega

theorem eol_search (text : Array Nat) (p : Nat) (hp : p ≤ text.size) : ∃ n, n ≤ 20 ∧
    (match firstFrom (isEol text) text.size (text.size + 1 - p) p with
      | some q => Hit (it n (forSearch codeEol text 0 p text.size false)) q (eolEnd text q)
      | none => Miss (it n (forSearch codeEol text 0 p text.size false))) := by
  by_cases h : p = text.size
  · subst h
    have e : firstFrom (isEol text) text.size (text.size + 1 - text.size) text.size = none := by
      rw [show text.size + 1 - text.size = 0 + 1 by omega]; unfold firstFrom; rw [if_neg (Nat.lt_irrefl _)]
    rw [e]
    refine ⟨1, by omega, ?_⟩
    have e2 : forSearch codeEol text 0 text.size text.size false = ({ ({ code := codeEol, text, lim := text.size, start := text.size, pc := 10, pos := text.size, handed := text.size, marks := #[], seen := ({} : Seen).add 14 } : M) with answer := some false } : M) := by
      show (if (decide (text.size > text.size) || decide (text.size - text.size < 1)) = true then _ else _) = _
      rw [if_pos (by simp)]; rfl
    rw [e2]
    exact ⟨_, rfl, rfl⟩
  · have e2 : forSearch codeEol text 0 p text.size false = ({ code := codeEol, text, lim := text.size, start := p, lastStart := text.size, pc := 10, pos := p, handed := p, marks := #[], seen := ({} : Seen).add 14 } : M).attemptFrom p true := by
      show (if (decide (p > text.size) || decide (text.size - p < 1)) = true then _ else _) = _
      rw [if_neg (by simp; omega)]; rfl
    rw [e2]
    obtain ⟨seen', e3⟩ := eol_admitted (m := ({ code := codeEol, text, lim := text.size, start := p, lastStart := text.size, pc := 10, pos := p, handed := p, marks := #[], seen := ({} : Seen).add 14 } : M)) rfl rfl rfl (text.size + 1 - p) p (({} : Seen).add 14)
    have e4 : ({ code := codeEol, text, lim := text.size, start := p, lastStart := text.size, pc := 10, pos := p, handed := p, marks := #[], seen := ({} : Seen).add 14 } : M).attemptFrom p true =
      (match ({ code := codeEol, text, lim := text.size, start := p, lastStart := text.size, pc := 10, pos := p, handed := p, marks := #[], seen := ({} : Seen).add 14 } : M).admitted (text.size + 1 - p) p (({} : Seen).add 14) with
        | .ok (some s, seen) => E text s 10 s s true [fS s true] 1 none seen
        | .ok (none, seen) => { code := codeEol, text, lim := text.size, start := p, lastStart := text.size, pc := 10, pos := p, handed := p, marks := #[], seen := seen, answer := some false }
        | .error why => M.stick { code := codeEol, text, lim := text.size, start := p, lastStart := text.size, pc := 10, pos := p, handed := p, marks := #[], seen := ({} : Seen).add 14 } why) := rfl
    rw [e4, e3]
    cases hf : firstFrom (isEol text) text.size (text.size + 1 - p) p with
    | none => exact ⟨1, by omega, _, rfl, rfl⟩
    | some q =>
      obtain ⟨_, h2, h3, _⟩ := firstFrom_ok hf
      obtain ⟨n, h4, h5⟩ := E_hit text q true seen' h2 h3
      exact ⟨n, h4, h5⟩
end Mine
end

section
namespace Mine
open PySem PySem.Sre PySem.W PySem.Builtin.Re

abbrev Keep (h h' : Heap) : Prop := ∀ b o, h.get? b = some o → h'.get? b = some o
theorem Keep.refl (h : Heap) : Keep h h := fun _ _ e => e
theorem Keep.trans {h₁ h₂ h₃ : Heap} (a : Keep h₁ h₂) (b : Keep h₂ h₃) : Keep h₁ h₃ := fun x o e => b x o (a x o e)
theorem Keep.push (h : Heap) (o : Obj) : Keep h (h.push o) := fun _ _ e => Heap.get?_push_of_some _ e

section
variable {M : Model} {A : Around} {E : Value → Shared → Prop} {s : Shared}

theorem wp_drive {Q : Sre.M → Shared → Prop} : ∀ (turns : Nat) (m : Sre.M) (n : Nat), 0 < turns → n ≤ 4 * turns → (it n m).outcome.isSome = true → Q (it n m) s → wpAny M A (reDrive turns m) Q E s
  | 0, m, n, h, _, _, _ => absurd h (Nat.lt_irrefl _)
  | k + 1, m, n, _, hn, ho, hq => by
    unfold reDrive
    show wpAny M A (if (Sre.M.runFor reTurnSteps m).outcome.isSome = true then pure (Sre.M.runFor reTurnSteps m) else do rule "sre.turn"; reDrive k (Sre.M.runFor reTurnSteps m)) Q E s
    rw [show Sre.M.runFor reTurnSteps m = it 4 m from runFor_it 4 m]
    by_cases h4 : (it 4 m).outcome.isSome = true
    · rw [if_pos h4]
      refine wpAny_pure ?_
      by_cases hle : n ≤ 4
      · have e : it 4 m = it n m := by
          rw [show 4 = n + (4 - n) by omega, it_add, it_done ho]
        rw [e]; exact hq
      · have e : it n m = it 4 m := by
          rw [show n = 4 + (n - 4) by omega, it_add, it_done h4]
        rw [← e]; exact hq
    · rw [if_neg h4]
      refine wpAny_bind (wpAny_rule ?_)
      have hgt : 4 < n := by
        apply Nat.lt_of_not_le
        intro hle
        apply h4
        rw [show 4 = n + (4 - n) by omega, it_add, it_done ho]; exact ho
      have e : it (n - 4) (it 4 m) = it n m := by
        rw [← it_add, show 4 + (n - 4) = n by omega]
      refine wp_drive k (it 4 m) (n - 4) ?_ (by omega) (by rw [e]; exact ho) (by rw [e]; exact hq)
      omega

theorem wp_rules {l : List Nat} {c : Nat → Bool} {f : Nat → String} {Q : PUnit → Shared → Prop} (hq : Q PUnit.unit s) :
    wpAny M A (forIn l PUnit.unit fun i (_ : PUnit) => if c i = true then do rule (f i); pure (ForInStep.yield PUnit.unit) else pure (ForInStep.yield PUnit.unit)) Q E s := by
  refine wpAny_forIn_list _ (fun _ _ s' => s' = s) Q ?_ ?_ l PUnit.unit rfl
  · rintro x rest b s' rfl
    by_cases h : c x = true
    · rw [if_pos h]; exact wpAny_bind (wpAny_rule (wpAny_pure rfl))
    · rw [if_neg h]; exact wpAny_pure rfl
  · rintro b s' rfl; exact hq

theorem wp_hit {m : Sre.M} {n q e : Nat} {Q : Option Sre.M → Shared → Prop} (hn : n ≤ 2 ^ 60) (h : Hit (it n m) q e) (hq : ∀ m', m'.start = q → m'.handed = e → Q (some m') s) :
    wpAny M A (reRunToEnd m) Q E s := by
  obtain ⟨⟨o, h1, h2⟩, h3, h4⟩ := h
  unfold reRunToEnd
  refine wpAny_bind (wp_drive _ m n (by decide) (Nat.le_trans hn (by decide)) (by rw [h1]; rfl) ?_)
  refine wpAny_bind (wp_rules (c := fun i => (it n m).seen.has i) ?_)
  rw [h1, h2]
  exact wpAny_pure (hq _ h3 h4)
theorem wp_miss {m : Sre.M} {n : Nat} {Q : Option Sre.M → Shared → Prop} (hn : n ≤ 2 ^ 60) (h : Miss (it n m)) (hq : Q none s) :
    wpAny M A (reRunToEnd m) Q E s := by
  obtain ⟨o, h1, h2⟩ := h
  unfold reRunToEnd
  refine wpAny_bind (wp_drive _ m n (by decide) (Nat.le_trans hn (by decide)) (by rw [h1]; rfl) ?_)
  refine wpAny_bind (wp_rules (c := fun i => (it n m).seen.has i) ?_)
  rw [h1, h2]
  exact wpAny_pure hq

/-- a compiled pattern lies at a -/
structure PatAt (h : Heap) (a : Addr) (code : Array Nat) (kind : Nat) : Prop where
  ex : ∃ o fs oc c vs n, h.get? a = some o ∧ o.data = .fields fs ∧ fs.getD 6 .none = .int kind 0 ∧ fs.getD 2 .none = .int 0 0 ∧ fs.getD 5 .none = .ref c ∧ h.get? c = some oc ∧ oc.data = .seq vs n ∧ (vs.map reRawOf).map (·.toNat) = code
theorem PatAt.keeps {h h' : Heap} {a : Addr} {code : Array Nat} {kind : Nat} (p : PatAt h a code kind) (k : Keep h h') : PatAt h' a code kind :=
  let ⟨o, fs, oc, c, vs, n, h1, h2, h3, h4, h5, h6, h7, h8⟩ := p.ex
  ⟨o, fs, oc, c, vs, n, k _ _ h1, h2, h3, h4, h5, k _ _ h6, h7, h8⟩

theorem wp_rawItems {c : Addr} {oc : Obj} {vs : Array Value} {n : Nat} {Q : Array Int → Shared → Prop} (h6 : s.heap.get? c = some oc) (h7 : oc.data = .seq vs n) (hq : Q (vs.map reRawOf) s) :
    wpAny M A (reRawItems (.ref c)) Q E s := by
  unfold reRawItems
  refine wpAny_bind (m := seqItems? (.ref c)) ?_
  unfold seqItems?
  refine wpAny_bind (wpAny_load h6 ?_)
  rw [h7]
  exact wpAny_pure (wpAny_pure hq)

def tgt (a : Addr) (string : Value) (code text : Array Nat) (kind : Nat) : ReTarget := { pattern := .ref a, string, code, text, kind, groups := 0, pos := 0, lim := text.size }

theorem wp_target_of {a : Addr} {code : Array Nat} {kind : Nat} {string : Value} {text : Array Nat} {Q : ReTarget → Shared → Prop} (p : PatAt s.heap a code kind) (hk : kind = 0 ∨ kind = 1)
    (ht : Looks M s.heap (reTextOf string) (text, kind)) (hb : Looks M s.heap (reNoCollectionInside string kind) ())
    (hq : Q (tgt a string code text kind) s) : wpAny M A (reWholeTarget (.ref a) string) Q E s := by
  obtain ⟨o, fs, oc, c, vs, n, h1, h2, h3, h4, h5, h6, h7, h8⟩ := p.ex
  unfold reWholeTarget
  refine wpAny_bind (wpAny_fieldsOf h1 h2 (wpAny_bind (ht.here ?_)))
  have fin : wpAny M A (do reNoCollectionInside string kind
                           pure ({ pattern := .ref a, string, code := (← reRawItems (fs.getD 5 .none)).map (·.toNat), text, kind, groups := reRawNat (fs.getD 2 .none), pos := 0, lim := text.size } : ReTarget)) Q E s := by
    refine wpAny_bind (hb.here (wpAny_bind ?_))
    rw [h5]
    refine wp_rawItems h6 h7 (wpAny_pure ?_)
    rw [h8, h4]; exact hq
  dsimp only
  rw [h3]
  rcases hk with rfl | rfl
  · exact fin
  · exact fin
end
end Mine
end

section
set_option maxRecDepth 100000
namespace Mine
open PySem PySem.Sre PySem.W PySem.Builtin.Re

theorem Keep.update {h₀ h : Heap} {D : Addr} (k : Keep h₀ h) (hD : h₀.get? D = none) (f : Obj → Obj) : Keep h₀ (h.update D f) := by
  intro b o e
  have hb : b ≠ D := by rintro rfl; rw [hD] at e; cases e
  rw [Heap.get?_update_other h f (Ne.symm hb)]
  exact k b o e

def vals (mk : Array Nat → Tok → Value) (ps : List (Array Nat × Tok)) : Array Value := (ps.map fun p => mk p.1 p.2).toArray
theorem vals_push (mk : Array Nat → Tok → Value) (ps : List (Array Nat × Tok)) (x : Array Nat) (t : Tok) : (vals mk ps).push (mk x t) = vals mk (ps ++ [(x, t)]) := by
  simp [vals]
theorem vals_size (mk : Array Nat → Tok → Value) (ps : List (Array Nat × Tok)) : (vals mk ps).size = ps.length := by simp [vals]
def allOf (ps : List (Array Nat × Tok)) : List Nat := ps.flatMap (·.1.toList)
theorem allOf_append (ps qs : List (Array Nat × Tok)) : allOf (ps ++ qs) = allOf ps ++ allOf qs := by simp [allOf]

/-- a made list that holds these -/
def ListOf (h : Heap) (D : Addr) (xs : Array Value) : Prop := ∃ n, h.get? D = some { cls := .type "list", data := .seq xs n }

structure Kd (prog : Program) (w : World) (k : Nat) (mk : Array Nat → Tok → Value) (sv : Value) (text repl : Array Nat) (rt : Tok) : Prop where
  two : k = 0 ∨ k = 1
  txt : ∀ h, Looks (model prog w) h (reTextOf sv) (text, k)
  noc : ∀ h, Looks (model prog w) h (reNoCollectionInside sv k) ()
  slice : ∀ b e (A : Around) (Q : Value → Shared → Prop) (E : Value → Shared → Prop) (s : Shared), Q (mk (text.extract b e) s.toks) { s with toks := s.toks + 1 } → wpAny (model prog w) A (reSlice text k b e) Q E s
  join : ∀ (D : Addr) (ps : List (Array Nat × Tok)) (t₀ : Tok) (A : Around) (Q : Value → Shared → Prop) (E : Value → Shared → Prop) (s : Shared), ListOf s.heap D (vals mk ps) → ps ≠ [] → ps.length + (ps.map (·.1.size)).sum ≤ 1048576 →
    (∀ t k, Q (mk (allOf ps).toArray t) { s with toks := k }) → wpAny (model prog w) A (call (.builtin (if (k == 0) = true then "str.join" else "bytes.join")) [mk #[] t₀, .ref D]) Q E s
  lit : ∀ h, Looks (model prog w) h (reLiteralCannotBeTurned (mk repl rt)) ()
  nn : (mk repl rt != Value.none) = true

def subOut (next : Nat → Option (Nat × Nat)) (text repl : Array Nat) : Nat → Nat → List Nat
  | 0, _ => []
  | f + 1, p => match next p with
    | some (q, e) => (text.extract p q).toList ++ repl.toList ++ subOut next text repl f e
    | none => (text.extract p text.size).toList

theorem loop_quiet (args : Args) : (Code.builtin "re.Pattern.sub.loop" args).quiet = true := Code.quiet_builtin args (by decide +kernel)
theorem loop_plain : plainId "re.Pattern.sub.loop" = true := by decide +kernel
theorem loop_entry : entryFor table "re.Pattern.sub.loop" = some Builtin.«re.Pattern.sub.loop» := entryFor_of_tree (by kernel_rfl)

section
variable {prog : Program} {w : World} {A : Around} {E : Value → Shared → Prop} {R : Result → Shared → Prop}

theorem code_entry {id : String} {args : Args} {b : Builtin} {s : Shared} (hb : entryFor table id = some b) (hp : plainId id = true)
    (h : wpAny (model prog w) A.in1 (b args) (fun fin s' => match fin with | .done f => R (.ok f) s' | .again c' => c'.quiet = true ∧ codeAny (model prog w) A c' R s') (fun e s' => R (.error e) s') s) : codeAny (model prog w) A (.builtin id args) R s := by
  refine codeAny_of_tree ?_
  rw [Around.under_plainId hp]
  show wpAny _ _ (match entryFor table id with | some b => b args | none => unsupported ((withoutEnding? id "#data").getD id)) _ _ s
  rw [hb]; exact h

theorem push_piece {h₀ : Heap} {D : Addr} {mk : Array Nat → Tok → Value} {ps : List (Array Nat × Tok)} {x : Array Nat} {t : Tok} {s : Shared} {Q : Unit → Shared → Prop} (kp : Keep h₀ s.heap) (hD : h₀.get? D = none)
    (hl : ListOf s.heap D (vals mk ps)) (hz : ps.length ≤ 1000000) (hq : ∀ h', Keep h₀ h' → ListOf h' D (vals mk (ps ++ [(x, t)])) → Q () { s with heap := h' }) :
    wpAny (model prog w) A (updateSeq D (·.push (mk x t))) Q E s := by
  obtain ⟨n, hn⟩ := hl
  have e := Heap.get?_update_self (Obj.mapSeq (·.push (mk x t))) hn rfl
  simp only [Obj.mapSeq, vals_push] at e
  refine wpAny_updateSeq hn rfl (hq _ (kp.update hD _) ⟨_, e⟩) (by rw [vals_size]; exact Nat.le_trans hz (by decide)) (by rw [Array.size_push, vals_size]; exact Nat.le_trans (Nat.add_le_add_right hz 1) (by decide))

theorem sub_loop {k : Nat} {mk : Array Nat → Tok → Value} {sv : Value} {text repl code : Array Nat} {rt : Tok} (K : Kd prog w k mk sv text repl rt) {h₀ : Heap} {a D : Addr} (P : PatAt h₀ a code k) (hD : h₀.get? D = none)
    (hts : text.size ≤ 200000) (hr : repl.size ≤ 2) (next : Nat → Option (Nat × Nat))
    (find : ∀ p, p ≤ text.size → match next p with
      | some (q, e) => (p ≤ q ∧ q < e ∧ e ≤ text.size) ∧ ∃ n, n ≤ 2 ^ 60 ∧ Hit (it n (forSearch code text 0 p text.size false)) q e
      | none => ∃ n, n ≤ 2 ^ 60 ∧ Miss (it n (forSearch code text 0 p text.size false))) :
    ∀ (f p : Nat) (s : Shared) (ps : List (Array Nat × Tok)) (cnt : Int), text.size - p < f → p ≤ text.size → Keep h₀ s.heap → ListOf s.heap D (vals mk ps) → ps.length ≤ 2 * p → (ps.map (·.1.size)).sum ≤ 2 * p →
      (∀ h' tk t', Keep h₀ h' → R (.ok (.ret (mk (allOf ps ++ subOut next text repl f p).toArray t'))) { s with heap := h', toks := tk }) →
      codeAny (model prog w) A (.builtin "re.Pattern.sub.loop" ⟨[.ref a, sv, mk repl rt, rawInt 0, rawInt 0, rawInt cnt, rawInt p, rawInt p, .bool false, .ref D, .bool false], []⟩) R s
  | 0, p, s, ps, cnt, hf, _, _, _, _, _, _ => absurd hf (Nat.not_lt_zero _)
  | f + 1, p, s, ps, cnt, hf, hp, kp, hl, hn1, hn2, hR => by
    refine code_entry loop_entry loop_plain ?_
    show wpAny _ _ (reWholeTarget (.ref a) sv >>= _) _ _ s
    refine wpAny_bind (wp_target_of (P.keeps kp) K.two (K.txt _) (K.noc _) ?_)
    rw [if_pos (by decide)]
    refine wpAny_bind ((K.lit _).here ?_)
    rw [if_neg (by simp)]
    have F := find p hp
    have e0 : (Int.toNat (p : Int)) = p := Int.toNat_natCast p
    unfold reNextFound
    simp only [e0]
    unfold subOut at hR
    cases hx : next p with
    | none =>
      rw [hx] at F hR
      obtain ⟨n, h1, h2⟩ := F
      refine wpAny_bind (wp_miss h1 h2 ?_)
      dsimp only at hR ⊢
      -- the end: the last piece, then the join
      have last : ∀ (s₁ : Shared) (ps₁ : List (Array Nat × Tok)), (∃ h tk, s₁ = { s with heap := h, toks := tk }) → Keep h₀ s₁.heap → ListOf s₁.heap D (vals mk ps₁) → allOf ps₁ = allOf ps ++ (text.extract p text.size).toList → ps₁.length + (ps₁.map (·.1.size)).sum ≤ 1048576 →
          wpAny (model prog w) A.in1 (do
            let joiner ← reSlice text k 0 0
            let l ← seqItems? (.ref D)
            if (l.getD #[]).isEmpty = true then (do let text ← (pure joiner : Sem Value); ret text) else (do
              let text ← call (.builtin (if (k == 0) = true then "str.join" else "bytes.join")) [joiner, .ref D]
              ret text)) (fun fin s' => match fin with | .done f => R (.ok f) s' | .again c' => c'.quiet = true ∧ codeAny (model prog w) A c' R s') (fun e s' => R (.error e) s') s₁ := by
        rintro s₁ ps₁ ⟨hh, tk, rfl⟩ kp₁ hl₁ hall hsum
        refine wpAny_bind (K.slice _ _ _ _ _ _ ?_)
        refine wpAny_bind (m := seqItems? (.ref D)) ?_
        obtain ⟨nn, hn⟩ := hl₁
        unfold seqItems?
        refine wpAny_bind (wpAny_load hn (wpAny_pure ?_))
        cases ps₁ with
        | nil =>
          rw [if_pos (by rfl)]
          refine wpAny_bind (wpAny_pure (wpAny_pure ?_))
          have e1 : text.extract 0 0 = (allOf ps ++ (text.extract p text.size).toList).toArray := by rw [← hall]; simp [allOf]
          rw [e1]
          exact hR _ _ _ kp₁
        | cons x r =>
          rw [if_neg (by simp [vals])]
          have e1 : text.extract 0 0 = #[] := by simp
          rw [e1]
          refine wpAny_bind (K.join D (x :: r) _ _ _ _ _ ⟨nn, hn⟩ (by simp) hsum fun t kk => wpAny_pure ?_)
          rw [hall]
          exact hR _ _ _ kp₁
      by_cases hlt : p < text.size
      · rw [if_pos (show p < (tgt a sv code text k).lim from hlt)]
        refine wpAny_bind (K.slice _ _ _ _ _ _ ?_)
        refine wpAny_bind (push_piece kp hD hl (by omega) fun h' kp' hl' => ?_)
        refine last _ (ps ++ [(text.extract p text.size, s.toks)]) ⟨_, _, rfl⟩ kp' hl' (by rw [allOf_append]; simp [allOf]) ?_
        simp only [List.length_append, List.length_singleton, List.map_append, List.map_cons, List.map_nil, List.sum_append, List.sum_cons, List.sum_nil, Array.size_extract]
        omega
      · rw [if_neg (show ¬ p < (tgt a sv code text k).lim from hlt)]
        refine last _ ps ⟨_, _, rfl⟩ kp hl ?_ (by omega)
        have : p = text.size := by omega
        subst this
        simp
    | some qe =>
      obtain ⟨q, e⟩ := qe
      rw [hx] at F hR
      obtain ⟨⟨hpq, hqe, he⟩, n, h1, h2⟩ := F
      refine wpAny_bind (wp_hit h1 h2 fun m' hst hhd => ?_)
      dsimp only at hR ⊢
      rw [hst, hhd]
      simp only [show ((0 : Int) == 0) = true from rfl, if_true]
      have rest : ∀ (s₁ : Shared) (ps₁ : List (Array Nat × Tok)), (∃ h tk, s₁ = { s with heap := h, toks := tk }) → Keep h₀ s₁.heap → ListOf s₁.heap D (vals mk ps₁) → allOf ps₁ = allOf ps ++ (text.extract p q).toList → ps₁.length + 1 ≤ 2 * e → (ps₁.map (·.1.size)).sum + repl.size ≤ 2 * e →
          wpAny (model prog w) A.in1 (do
            let item ← (pure (mk repl rt) : Sem Value)
            if (item != Value.none) = true then (do
              updateSeq D (·.push item)
              again (.builtin "re.Pattern.sub.loop" ⟨[.ref a, sv, mk repl rt, rawInt 0, rawInt 0, rawInt (cnt + 1), rawInt e, rawInt e, .bool (e == q), .ref D, .bool false], []⟩))
            else again (.builtin "re.Pattern.sub.loop" ⟨[.ref a, sv, mk repl rt, rawInt 0, rawInt 0, rawInt (cnt + 1), rawInt e, rawInt e, .bool (e == q), .ref D, .bool false], []⟩))
            (fun fin s' => match fin with | .done f => R (.ok f) s' | .again c' => c'.quiet = true ∧ codeAny (model prog w) A c' R s') (fun e s' => R (.error e) s') s₁ := by
        rintro s₁ ps₁ ⟨hh, tk, rfl⟩ kp₁ hl₁ hall hlen hsum
        refine wpAny_bind (wpAny_pure ?_)
        rw [if_pos K.nn]
        refine wpAny_bind (push_piece kp₁ hD hl₁ (by omega) fun h' kp' hl' => wpAny_pure ⟨loop_quiet _, ?_⟩)
        rw [beq_false_of_ne (by omega : e ≠ q)]
        refine sub_loop K P hD hts hr next find f e _ (ps₁ ++ [(repl, rt)]) _ (by omega) he kp' hl' (by rw [List.length_append, List.length_singleton]; exact hlen) ?_ fun h'' tk' t' kp'' => ?_
        · simp only [List.map_append, List.map_cons, List.map_nil, List.sum_append, List.sum_cons, List.sum_nil]; omega
        · have e2 : allOf (ps₁ ++ [(repl, rt)]) ++ subOut next text repl f e = allOf ps ++ ((text.extract p q).toList ++ repl.toList ++ subOut next text repl f e) := by
            rw [allOf_append, hall]; simp [allOf]
          rw [e2]
          exact hR _ _ _ kp''
      by_cases hlt : p < q
      · rw [if_pos hlt]
        refine wpAny_bind (K.slice _ _ _ _ _ _ ?_)
        refine wpAny_bind (push_piece kp hD hl (by omega) fun h' kp' hl' => ?_)
        refine rest _ (ps ++ [(text.extract p q, s.toks)]) ⟨_, _, rfl⟩ kp' hl' (by rw [allOf_append]; simp [allOf]) ?_ ?_
        · simp only [List.length_append, List.length_singleton]; omega
        · simp only [List.map_append, List.map_cons, List.map_nil, List.sum_append, List.sum_cons, List.sum_nil, Array.size_extract]; omega
      · rw [if_neg hlt]
        refine rest _ ps ⟨_, _, rfl⟩ kp hl ?_ (by omega) (by omega)
        have : p = q := by omega
        subst this
        simp
end
end Mine
end

section
set_option maxRecDepth 100000
namespace Mine
open PySem PySem.Sre PySem.W PySem.Builtin.Re PySem.Builtin.Bytes

def mkS (x : Array Nat) (t : Tok) : Value := .str ⟨x⟩ t
def by8 (x : Array Nat) : Array UInt8 := x.map (·.toUInt8)
def mkB (x : Array Nat) (t : Tok) : Value := .bytes (by8 x) t

theorem in_nil (h : Heap) : Frag.In [] h := fun _ _ e => by cases e

section
variable {prog : Program} {w : World} {A : Around} {E : Value → Shared → Prop} {s : Shared}

theorem join_str {D : Addr} {ps : List (Array Nat × Tok)} {t₀ : Tok} {Q : Value → Shared → Prop} (hl : ListOf s.heap D (vals mkS ps)) (_hne : ps ≠ []) (hsum : ps.length + (ps.map (·.1.size)).sum ≤ 1048576)
    (hq : ∀ t k, Q (mkS (allOf ps).toArray t) { s with toks := k }) : wpAny (model prog w) A (call (.builtin "str.join") [mkS #[] t₀, .ref D]) Q E s := by
  obtain ⟨n, hn⟩ := hl
  have e : vals mkS ps = (strValues (ps.map fun p => (⟨p.1⟩, p.2))).toArray := by
    simp [vals, strValues, mkS, Function.comp_def]
  have hl' : s.heap.IsList D (strValues (ps.map fun p => (⟨p.1⟩, p.2))).toArray := ⟨_, hn, rfl, n, by rw [e]⟩
  have hw : (ps.map fun p => (⟨p.1⟩ : PySem.Str)).map (·.length) = ps.map (·.1.size) := by simp [PySem.Str.length, Function.comp_def]
  refine SC.join (x := ⟨#[]⟩) (texts := ps.map fun p => ⟨p.1⟩) hl' (by simp [Function.comp_def]) (PyProof.Rows.joinOk_of_weight (by rw [hw, List.length_map]; omega) (by decide)) fun t k => ?_
  have e2 : Txt.join ⟨#[]⟩ (ps.map fun p => (⟨p.1⟩ : PySem.Str)) = ⟨(allOf ps).toArray⟩ := by
    show PySem.Builtin.Str.glued _ _ = _
    rw [StrLaws.glued_eq_join]
    have gen : ∀ qs : List (Array Nat × Tok), (Str.join ⟨#[]⟩ (qs.map fun p => (⟨p.1⟩ : PySem.Str))).cps.toList = allOf qs := by
      intro qs
      induction qs with
      | nil => rfl
      | cons q r ih =>
        cases r with
        | nil => simp [Str.join, allOf]
        | cons q' r' =>
          show ((⟨q.1⟩ : PySem.Str) ++ ⟨#[]⟩ ++ Str.join ⟨#[]⟩ ((q' :: r').map fun p => (⟨p.1⟩ : PySem.Str))).cps.toList = _
          have : ∀ a b c : PySem.Str, (a ++ b ++ c).cps.toList = a.cps.toList ++ b.cps.toList ++ c.cps.toList := by
            intro a b c
            show ((a.cps ++ b.cps) ++ c.cps).toList = _
            simp
          rw [this, ih]
          simp [allOf]
    have := gen ps
    cases hj : Str.join ⟨#[]⟩ (ps.map fun p => (⟨p.1⟩ : PySem.Str)) with
    | mk cps => rw [hj] at this; simp only at this; rw [← this]
  rw [e2]
  exact hq t k

theorem take_bytes (b : Array UInt8) (t : Tok) (h : Heap) : Looks (model prog w) h (takeBufferQuiet? "bytes.join" (.bytes b t) 0) (some (b, none)) :=
  Looks.of_peek (in_nil h) (by kernel_rfl)

theorem letgo_bytes : ∀ (taken : List (Value × Option Value)) (keep : List Value) (Q : Unit → Shared → Prop) (s : Shared), (∀ p ∈ taken, p.2 = none) → Q () s → wpAny (model prog w) A (joinLetGo taken keep) Q E s
  | [], _, _, _, _, hq => wpAny_pure hq
  | (x, u) :: rest, keep, Q, s, h, hq => by
    have hu : u = none := h _ (List.mem_cons_self ..)
    subst hu
    unfold joinLetGo
    refine wpAny_bind (wpAny_letGo ?_)
    exact letgo_bytes rest keep Q s (fun p hp => h p (List.mem_cons_of_mem _ hp)) hq

theorem joined_nil (l : List (Array UInt8)) : joined #[] l = l.foldl (fun o p => o ++ p) #[] := by
  unfold joined
  have gen : ∀ (l : List (Array UInt8)) (k : Nat) (acc : Array UInt8), (l.zipIdx k).foldl (fun out (x : Array UInt8 × Nat) => (if x.2 > 0 then out ++ #[] else out) ++ x.1) acc = l.foldl (fun o p => o ++ p) acc := by
    intro l
    induction l with
    | nil => intro k acc; rfl
    | cons x r ih =>
      intro k acc
      rw [List.zipIdx_cons, List.foldl_cons, List.foldl_cons, ih]
      congr 1
      split <;> simp
  exact gen l 0 #[]

theorem foldl_by8 (ps : List (Array Nat × Tok)) : (ps.map fun p => by8 p.1).foldl (fun o p => o ++ p) #[] = by8 (allOf ps).toArray := by
  have gen : ∀ (ps : List (Array Nat × Tok)) (acc : Array UInt8), (ps.map fun p => by8 p.1).foldl (fun o p => o ++ p) acc = acc ++ by8 (allOf ps).toArray := by
    intro ps
    induction ps with
    | nil => intro acc; simp [allOf, by8]
    | cons p r ih =>
      intro acc
      rw [List.map_cons, List.foldl_cons, ih]
      apply Array.toList_inj.mp
      simp [allOf, by8]
  rw [gen]
  simp

theorem join_entry : entryFor table "bytes.join" = some Builtin.«bytes.join» := entryFor_of_tree (by kernel_rfl)
theorem slot_join : Slot "bytes" "join" "bytes.join" :=
  .of (owner := "bytes") (n := "join") (by rw [typeLookup_type, builtinLookup_eq_fast]; kernel_rfl) (by decide +kernel) (by decide +kernel) (by decide +kernel)
    (by first | exact .inl (by decide +kernel) | exact .inr (by decide +kernel)) (by rw [isSubtype_type]; kernel_rfl)
theorem args_join (a b : Value) : argsOk "bytes.join" ⟨[a, b], []⟩ := by unfold argsOk; kernel_rfl
theorem slot_sub : Slot "re.Pattern" "sub" "re.Pattern.sub" :=
  .of (owner := "re.Pattern") (n := "sub") (by rw [typeLookup_type, builtinLookup_eq_fast]; kernel_rfl) (by decide +kernel) (by decide +kernel) (by decide +kernel)
    (by first | exact .inl (by decide +kernel) | exact .inr (by decide +kernel)) (by rw [isSubtype_type]; kernel_rfl)
theorem sub_entry : entryFor table "re.Pattern.sub" = some Builtin.«re.Pattern.sub» := entryFor_of_tree (by kernel_rfl)
theorem args_sub (a b c : Value) : argsOk "re.Pattern.sub" ⟨[a, b, c], []⟩ := by unfold argsOk; kernel_rfl
end
end Mine
end

section
set_option maxRecDepth 100000
namespace Mine
open PySem PySem.Sre PySem.W PySem.Builtin.Re PySem.Builtin.Bytes

section
variable {prog : Program} {w : World} {A : Around} {E : Value → Shared → Prop} {s : Shared}

theorem call_slot {T : String} {name : PySem.Str} {id : String} {B : Builtin} {self : Value} {rest : List Value} {Q : Value → Shared → Prop} (slot : Slot T name id) (hT : s.TypeIs self T)
    (entry : entryFor table id = some B) (args : argsOk id ⟨self :: rest, []⟩)
    (h : wpAny (model prog w) A.in1 (B ⟨self :: rest, []⟩) (fun fin s' => match fin with | .done f => wants Q E (.ok f) s' | .again c' => c'.quiet = true ∧ codeAny (model prog w) A c' (wants Q E) s') (fun e s' => wants Q E (.error e) s') s) :
    wpAny (model prog w) A (call (.builtin id) (self :: rest)) Q E s :=
  wpAny_call (codeAny_call_builtin slot.plain entry (slot.check _ _ _ _ _ _ _ _ hT args h))

theorem vals_get (mk : Array Nat → Tok → Value) (ps : List (Array Nat × Tok)) (i : Nat) (hi : i < ps.length) : (vals mk ps).getD i .none = mk ps[i].1 ps[i].2 := by
  unfold vals
  rw [Array.getD_eq_getD_getElem?]
  simp [hi]

theorem join_bytes {D : Addr} {ps : List (Array Nat × Tok)} {t₀ : Tok} {Q : Value → Shared → Prop} (hl : ListOf s.heap D (vals mkB ps)) (hne : ps ≠ []) (hsum : ps.length + (ps.map (·.1.size)).sum ≤ 1048576)
    (hq : ∀ t k, Q (mkB (allOf ps).toArray t) { s with toks := k }) : wpAny (model prog w) A (call (.builtin "bytes.join") [mkB #[] t₀, .ref D]) Q E s := by
  obtain ⟨n, hn⟩ := hl
  refine call_slot slot_join rfl join_entry (args_join _ _) ?_
  show wpAny _ _ (joinM .bytes _) _ _ s
  unfold joinM
  refine wpAny_bind (m := selfAndOne _ _) (wpAny_pure ?_)
  dsimp only
  rw [if_pos (by rfl)]
  refine wpAny_bind (m := joinItems (.ref D)) ?_
  unfold joinItems
  refine wpAny_bind (m := typeOf (.ref D)) (wpAny_bind (wpAny_loadPart hn (wpAny_pure ?_)))
  rw [if_pos (by rfl)]
  refine wpAny_pure ?_
  refine wpAny_bind (m := seqItems? (.ref D)) ?_
  unfold seqItems?
  refine wpAny_bind (wpAny_load hn (wpAny_pure ?_))
  dsimp only
  rw [if_pos (by rfl)]
  have hsz : (vals mkB ps).size = ps.length := vals_size _ _
  have hlen : ps.length ≤ 1048576 := by omega
  match ps, hne with
  | [p], _ =>
    show wpAny _ _ (pure (Value.type "bytes") >>= _) _ _ s
    refine wpAny_bind (wpAny_pure ?_)
    rw [if_pos (by rfl)]
    refine wpAny_bind (wpAny_rule (wpAny_pure ?_))
    have e : mkB p.1 p.2 = mkB (allOf [p]).toArray p.2 := by simp [allOf]
    show Q (mkB p.1 p.2) s
    rw [e]
    exact hq _ s.toks
  | p :: p' :: r, _ =>
    refine wpAny_bind (m := forIn (m := Sem) [:(vals mkB (p :: p' :: r)).size] _ _) ?_
    generalize hps : p :: p' :: r = ps at *
    rw [Std.Legacy.Range.forIn_eq_forIn_range']
    refine wpAny_forIn_list _ (fun l (st : Array (Array UInt8) × List (Value × Option Value)) s' => ∃ i, i ≤ ps.length ∧ l = List.range' i (ps.length - i) ∧ st.1.toList = (ps.take i).map (fun p => by8 p.1) ∧ st.2 = (ps.take i).map (fun p => (mkB p.1 p.2, none)) ∧ s' = s) _ ?_ ?_ _ _ ?_
    · rintro x rest ⟨parts, taken⟩ s' ⟨i, hi, hl, h1, h2, rfl⟩
      have hi' : i < ps.length := by
        apply Nat.lt_of_le_of_ne hi
        intro e
        rw [e, Nat.sub_self] at hl
        cases hl
      rw [show ps.length - i = (ps.length - (i + 1)) + 1 by omega, List.range'_succ] at hl
      obtain ⟨rfl, rfl⟩ := List.cons.inj hl
      dsimp only at h1 h2 ⊢
      refine wpAny_bind (wpAny_bind (wpAny_load hn (wpAny_pure ?_)))
      dsimp only
      have hany : (Kind.bytes == Kind.bytearray || taken.any fun x => x.fst.onHeap) = false := by
        rw [h2]
        show (false || _) = false
        rw [Bool.false_or, List.any_map]
        exact List.any_eq_false.mpr fun p _ => by rw [Function.comp_apply]; exact Bool.false_ne_true
      rw [if_neg (by rw [hany]; exact Bool.false_ne_true), vals_get mkB ps x hi']
      refine wpAny_bind (wpAny_holding ((take_bytes (by8 ps[x].1) ps[x].2 _).here ?_))
      dsimp only
      refine wpAny_bind (wpAny_bind (wpAny_load hn (wpAny_pure ?_)))
      dsimp only
      rw [if_neg (by simp)]
      refine wpAny_pure ?_
      refine ⟨x + 1, hi', rfl, ?_, ?_, rfl⟩
      · dsimp only
        rw [Array.toList_push, h1, List.take_add_one, List.map_append]
        simp [hi']
      · dsimp only
        rw [h2, List.take_add_one, List.map_append]
        simp [hi']
    · rintro ⟨parts, taken⟩ s' ⟨i, hi, hl, h1, h2, rfl⟩
      have hi' : i = ps.length := by
        have := congrArg List.length hl
        simp at this
        omega
      subst hi'
      dsimp only at h1 h2 ⊢
      rw [List.take_length] at h1 h2
      refine wpAny_bind (m := payload (mkB #[] t₀)) (wpAny_pure ?_)
      have hj : joined (by8 #[]) parts.toList = by8 (allOf ps).toArray := by
        rw [h1, show by8 #[] = #[] by simp [by8]]; exact (joined_nil _).trans (foldl_by8 ps)
      have hall : (allOf ps).length = (ps.map (·.1.size)).sum := by
        simp [allOf, List.length_flatMap]
      have htl : tooLong (Array.foldl (fun x1 x2 => x1 + x2.size) ((by8 #[]).size * (parts.size - 1)) parts) = false := by
        have e : Array.foldl (fun x1 x2 => x1 + x2.size) ((by8 #[]).size * (parts.size - 1)) parts = (ps.map (·.1.size)).sum := by
          rw [← Array.foldl_toList, h1]
          have gen : ∀ (qs : List (Array Nat × Tok)) (a : Nat), List.foldl (fun (x1 : Nat) (x2 : Array UInt8) => x1 + x2.size) a (qs.map fun p => by8 p.1) = a + (qs.map (·.1.size)).sum := by
            intro qs
            induction qs with
            | nil => intro a; rfl
            | cons q r ih =>
              intro a
              rw [List.map_cons, List.foldl_cons, ih, List.map_cons, List.sum_cons]
              simp [by8]
              omega
          rw [gen]
          simp [by8]
        rw [e]
        unfold tooLong
        simp [sizeLine]
        omega
      rw [htl, if_neg Bool.false_ne_true, hj]
      refine wpAny_bind (m := Kind.bytes.new _) ?_
      show wpAny _ _ (mkBytes _) _ _ _
      unfold mkBytes
      rw [if_neg (by simp [by8, sizeLine]; omega)]
      refine wpAny_bind (wpAny_fresh (wpAny_pure ?_))
      refine wpAny_bind (wpAny_holding (wpAny_point ?_))
      refine wpAny_bind (letgo_bytes _ _ _ _ (by rw [h2]; intro p hp; obtain ⟨q, _, rfl⟩ := List.mem_map.mp hp; rfl) (wpAny_pure ?_))
      exact hq _ _
    · refine ⟨0, Nat.zero_le _, ?_, rfl, rfl, rfl⟩
      show List.range' _ _ _ = _
      simp [hsz, Std.Legacy.Range.size]
end
end Mine
end

section
set_option maxRecDepth 100000
namespace Mine
open PySem PySem.Sre PySem.W PySem.Builtin.Re PySem.Builtin.Bytes

section
variable {prog : Program} {w : World} {A : Around} {E : Value → Shared → Prop} {s : Shared}

def LitOk (M : Model) (v : Value) : Prop :=
  (∃ x : PySem.Str, (∀ h, Looks M h (asStr? v) (some x)) ∧ x.cps.contains 92 = false) ∨
  ((∀ h, Looks M h (asStr? v) none) ∧ ∃ b : Array UInt8, (∀ h, Looks M h (bufferQuiet? "re.Pattern.sub" v) (some b)) ∧ b.contains 92 = false)

theorem named_sub (a b : Value) (h : Heap) : Looks (model prog w) h (reNamed "re.Pattern.sub" "sub" ["repl", "string", "count"] 2 [a, b] []) [some a, some b, none] :=
  Looks.of_peek (in_nil h) (by kernel_rfl)

theorem heap_next (h : Heap) : h.get? h.objs.size = none := by
  cases hq : h.get? h.objs.size with
  | none => rfl
  | some o => exact absurd (Heap.lt_size hq) (Nat.lt_irrefl _)

theorem sub_call {k : Nat} {mk : Array Nat → Tok → Value} {sv : Value} {text repl code : Array Nat} {rt : Tok} (K : Kd prog w k mk sv text repl rt) {a : Addr} (P : PatAt s.heap a code k) (hT : s.TypeIs (.ref a) "re.Pattern")
    (hsp : ∀ h, Looks (model prog w) h (specialOf (mk repl rt) (PySem.Str.ofString "__call__")) none) (hlit : LitOk (model prog w) (mk repl rt))
    (hts : text.size ≤ 200000) (hr : repl.size ≤ 2) (next : Nat → Option (Nat × Nat))
    (find : ∀ p, p ≤ text.size → match next p with
      | some (q, e) => (p ≤ q ∧ q < e ∧ e ≤ text.size) ∧ ∃ n, n ≤ 2 ^ 60 ∧ Hit (it n (forSearch code text 0 p text.size false)) q e
      | none => ∃ n, n ≤ 2 ^ 60 ∧ Miss (it n (forSearch code text 0 p text.size false)))
    {Q : Value → Shared → Prop} (hq : ∀ h' tk t', Keep s.heap h' → Q (mk (subOut next text repl (text.size + 1) 0).toArray t') { s with heap := h', toks := tk }) :
    wpAny (model prog w) A (call (.builtin "re.Pattern.sub") [.ref a, mk repl rt, sv]) Q E s := by
  refine call_slot slot_sub hT sub_entry (args_sub _ _ _) ?_
  show wpAny _ _ (reSubstitute "re.Pattern.sub" "sub" false _) _ _ s
  unfold reSubstitute
  dsimp only
  refine wpAny_bind ((named_sub _ _ _).here ?_)
  dsimp only
  refine wpAny_bind (wpAny_pure ?_)
  refine wpAny_bind ((hsp _).here ?_)
  rw [if_neg (by decide)]
  have go : wpAny (model prog w) A.in1 (do
      let _ ← holding [mk repl rt] (reWholeTarget (.ref a) sv)
      let l ← newList []
      again (.builtin "re.Pattern.sub.loop" ⟨[.ref a, sv, mk repl rt, rawInt 0, rawInt 0, rawInt 0, rawInt 0, rawInt 0, .bool false, l, .bool false], []⟩))
      (fun fin s' => match fin with | .done f => wants Q E (.ok f) s' | .again c' => c'.quiet = true ∧ codeAny (model prog w) A c' (wants Q E) s') (fun e s' => wants Q E (.error e) s') s := by
    refine wpAny_bind (wpAny_holding (wp_target_of P K.two (K.txt _) (K.noc _) ?_))
    refine wpAny_bind (m := newList []) (wpAny_newObj_type ?_ (Nat.zero_le _))
    refine wpAny_pure ⟨loop_quiet _, ?_⟩
    refine sub_loop K P (heap_next _) hts hr next find (text.size + 1) 0 _ [] 0 (by omega) (Nat.zero_le _) (Keep.push _ _) ⟨0, Heap.get?_push_size _ rfl⟩ (Nat.le_refl _) (Nat.le_refl _) fun h' tk t' kp => ?_
    show Q _ _
    exact hq h' tk t' kp
  rcases hlit with ⟨x, hx, hc⟩ | ⟨hx, b, hb, hc⟩
  · refine wpAny_bind ((hx _).here ?_)
    dsimp only
    rw [hc]
    refine wpAny_bind (wpAny_pure ?_)
    exact go
  · refine wpAny_bind ((hx _).here ?_)
    dsimp only
    refine wpAny_bind ((hb _).here ?_)
    dsimp only
    rw [hc]
    refine wpAny_bind (wpAny_pure ?_)
    exact go

/-! the two kinds -/
theorem kd_str (text repl : Array Nat) (t rt : Tok) (hts : text.size ≤ 200000) : Kd prog w 0 mkS (.str ⟨text⟩ t) text repl rt where
  two := .inl rfl
  txt := fun _ => Looks.of_pure rfl
  noc := fun _ => Looks.of_pure rfl
  slice := by
    intro b e A Q E s h
    show wpAny _ _ (mkStr ⟨text.extract b e⟩) _ _ _
    have hle : ¬ (PySem.Str.length ⟨text.extract b e⟩ > sizeLine) := by
      show ¬ ((text.extract b e).size > sizeLine)
      simp only [Array.size_extract, sizeLine]
      omega
    unfold mkStr
    rw [if_neg hle]
    exact wpAny_bind (wpAny_fresh (wpAny_pure h))
  join := fun D ps t₀ A Q E s hl hne hsum hq => join_str hl hne hsum hq
  lit := fun _ => Looks.of_pure rfl
  nn := rfl
theorem by8_nat (b : Array UInt8) : by8 (b.map (·.toNat)) = b := by
  unfold by8
  rw [Array.map_map]
  have : ((fun x : Nat => x.toUInt8) ∘ fun x : UInt8 => x.toNat) = id := by
    funext x
    simp
  rw [this, Array.map_id]
theorem kd_bytes (b : Array UInt8) (repl : Array Nat) (t rt : Tok) (hts : b.size ≤ 200000) : Kd prog w 1 mkB (.bytes b t) (b.map (·.toNat)) repl rt where
  two := .inr rfl
  txt := fun h => Looks.of_peek (in_nil h) (by kernel_rfl)
  noc := fun h => Looks.of_peek (in_nil h) (by kernel_rfl)
  slice := by
    intro b₁ e A Q E s h
    show wpAny _ _ (mkBytes (by8 ((b.map (·.toNat)).extract b₁ e))) _ _ _
    have hle : ¬ ((by8 ((b.map (·.toNat)).extract b₁ e)).size > sizeLine) := by
      simp only [by8, Array.size_map, Array.size_extract, sizeLine]
      omega
    unfold mkBytes
    rw [if_neg hle]
    exact wpAny_bind (wpAny_fresh (wpAny_pure h))
  join := fun D ps t₀ A Q E s hl hne hsum hq => join_bytes hl hne hsum hq
  lit := fun h => Looks.of_peek (in_nil h) (by kernel_rfl)
  nn := rfl
end
end Mine
end

section
set_option maxRecDepth 100000
namespace Mine
open PySem PySem.Sre PySem.W PySem.Builtin.Re PySem.Builtin.Bytes

/-- the ends of rows as a return and a feed; the flag: the sign before was a return -/
def fixS : Bool → List Nat → List Nat
  | _, [] => []
  | b, c :: r => if c == 10 then (if b then fixS false r else 13 :: 10 :: fixS false r) else if c == 13 then 13 :: 10 :: fixS true r else c :: fixS false r
/-- dots doubled; the flag: a row begins here -/
def dotS : Bool → List Nat → List Nat
  | _, [] => []
  | b, c :: r => if b && c == 46 then 46 :: 46 :: dotS false r else c :: dotS (c == 10) r

def nextOf (ok : Nat → Bool) (en : Nat → Nat) (size p : Nat) : Option (Nat × Nat) := (firstFrom ok size (size + 1 - p) p).map fun q => (q, en q)

theorem drop_cons (text : Array Nat) {p : Nat} (h : p < text.size) : text.toList.drop p = text.getD p 0 :: text.toList.drop (p + 1) := by
  rw [List.drop_eq_getElem_cons (by simpa using h)]
  simp [Array.getD, h]
theorem extract_cons (text : Array Nat) {p q : Nat} (h : p < text.size) (hq : p < q) : (text.extract p q).toList = text.getD p 0 :: (text.extract (p + 1) q).toList := by
  rw [Array.toList_extract, Array.toList_extract, List.extract_eq_take_drop, List.extract_eq_take_drop, drop_cons text h, show q - p = (q - (p + 1)) + 1 by omega, List.take_succ_cons]
theorem extract_self (text : Array Nat) (p : Nat) : (text.extract p p).toList = [] := by simp
theorem extract_end (text : Array Nat) (p : Nat) : (text.extract p text.size).toList = text.toList.drop p := by
  rw [Array.toList_extract, List.extract_eq_take_drop, List.take_of_length_le]
  simp

theorem eolEnd_in (text : Array Nat) {q : Nat} (h : q < text.size) : q < eolEnd text q ∧ eolEnd text q ≤ text.size := by
  unfold eolEnd
  by_cases hc : (text.getD q 0 == 13 && (decide (q + 1 < text.size) && text.getD (q + 1) 0 == 10)) = true
  · rw [if_pos hc]
    have := of_decide_eq_true (Bool.and_eq_true_iff.mp (Bool.and_eq_true_iff.mp hc).2).1
    omega
  · rw [if_neg hc]; omega
theorem fix_plain (text : Array Nat) : ∀ (k p q : Nat), q - p ≤ k → p ≤ q → q ≤ text.size → (∀ j, p ≤ j → j < q → isEol text j = false) → fixS false (text.toList.drop p) = (text.extract p q).toList ++ fixS false (text.toList.drop q)
  | 0, p, q, hk, h1, h2, _ => by
    have : p = q := by omega
    subst this
    rw [extract_self]; rfl
  | k + 1, p, q, hk, h1, h2, hn => by
    by_cases hp : p = q
    · subst hp; rw [extract_self]; rfl
    · have hlt : p < text.size := by omega
      rw [drop_cons text hlt, extract_cons text hlt (by omega)]
      have := hn p (Nat.le_refl _) (by omega)
      unfold isEol at this
      obtain ⟨e1, e2⟩ := Bool.or_eq_false_iff.mp this
      conv => lhs; unfold fixS
      rw [e1, e2]
      simp only [Bool.false_eq_true, if_false, List.cons_append]
      rw [fix_plain text k (p + 1) q (by omega) (by omega) h2 fun j h3 h4 => hn j (by omega) h4]

theorem fix_skip {b : Bool} {l : List Nat} (h : l.head? ≠ some 10) : fixS b l = fixS false l := by
  cases l with
  | nil => rfl
  | cons c r =>
    have hc : (c == 10) = false := by
      cases hh : (c == 10) with
      | false => rfl
      | true => exact absurd (by rw [beq_iff_eq.mp hh]; rfl) h
    unfold fixS
    rw [hc]
    rfl

theorem fix_out (text : Array Nat) : ∀ (f p : Nat), text.size - p < f → p ≤ text.size → subOut (nextOf (isEol text) (eolEnd text) text.size) text #[13, 10] f p = fixS false (text.toList.drop p)
  | 0, p, h, _ => absurd h (Nat.not_lt_zero _)
  | f + 1, p, h, hp => by
    unfold subOut
    cases hx : firstFrom (isEol text) text.size (text.size + 1 - p) p with
    | none =>
      rw [show nextOf (isEol text) (eolEnd text) text.size p = none by unfold nextOf; rw [hx]; rfl]
      have hn := firstFrom_none (by omega) hx
      rw [fix_plain text _ p text.size (Nat.le_refl _) hp (Nat.le_refl _) hn]
      have : text.toList.drop text.size = [] := by simp
      rw [this]
      simp [fixS]
    | some q =>
      rw [show nextOf (isEol text) (eolEnd text) text.size p = some (q, eolEnd text q) by unfold nextOf; rw [hx]; rfl]
      obtain ⟨h1, h2, h3, h4⟩ := firstFrom_ok hx
      rw [fix_plain text _ p q (Nat.le_refl _) h1 (by omega) h4]
      dsimp only
      rw [List.append_assoc]
      congr 1
      have hen := eolEnd_in text h2
      rw [fix_out text f (eolEnd text q) (by omega) hen.2, drop_cons text h2]
      show 13 :: 10 :: _ = _
      unfold isEol at h3
      unfold eolEnd
      cases h13 : (text.getD q 0 == 13) with
      | true =>
        have h10 : (text.getD q 0 == 10) = false := by rw [beq_iff_eq.mp h13]; rfl
        conv => rhs; unfold fixS
        rw [h10, h13]
        simp only [Bool.false_eq_true, if_false, if_true, Bool.true_and]
        by_cases hc : (decide (q + 1 < text.size) && text.getD (q + 1) 0 == 10) = true
        · rw [if_pos hc]
          obtain ⟨e1, e2⟩ := Bool.and_eq_true_iff.mp hc
          rw [drop_cons text (of_decide_eq_true e1)]
          conv => rhs; unfold fixS
          rw [e2]
          rfl
        · rw [if_neg hc]
          congr 2
          refine (fix_skip ?_).symm
          intro hh
          by_cases hq : q + 1 < text.size
          · rw [drop_cons text hq] at hh
            apply hc
            rw [decide_eq_true hq, Bool.true_and]
            exact beq_iff_eq.mpr (Option.some.inj hh)
          · rw [List.drop_of_length_le (by simp; omega)] at hh
            cases hh
      | false =>
        rw [h13, Bool.or_false] at h3
        conv => rhs; unfold fixS
        rw [h3]
        simp

theorem bol_next (text : Array Nat) (p : Nat) : atBol text (p + 1) = (text.getD p 0 == 10) := by
  unfold atBol
  simp
theorem dot_plain (text : Array Nat) : ∀ (k p q : Nat), q - p ≤ k → p ≤ q → q ≤ text.size → (∀ j, p ≤ j → j < q → dotOk text j = false) → dotS (atBol text p) (text.toList.drop p) = (text.extract p q).toList ++ dotS (atBol text q) (text.toList.drop q)
  | 0, p, q, hk, h1, h2, _ => by
    have : p = q := by omega
    subst this
    rw [extract_self]; rfl
  | k + 1, p, q, hk, h1, h2, hn => by
    by_cases hp : p = q
    · subst hp; rw [extract_self]; rfl
    · have hlt : p < text.size := by omega
      rw [drop_cons text hlt, extract_cons text hlt (by omega)]
      have := hn p (Nat.le_refl _) (by omega)
      unfold dotOk isDot at this
      conv => lhs; unfold dotS
      rw [this]
      simp only [Bool.false_eq_true, if_false, List.cons_append]
      rw [← bol_next, dot_plain text k (p + 1) q (by omega) (by omega) h2 fun j h3 h4 => hn j (by omega) h4]

theorem dot_out (text : Array Nat) : ∀ (f p : Nat), text.size - p < f → p ≤ text.size → subOut (nextOf (dotOk text) (· + 1) text.size) text #[46, 46] f p = dotS (atBol text p) (text.toList.drop p)
  | 0, p, h, _ => absurd h (Nat.not_lt_zero _)
  | f + 1, p, h, hp => by
    unfold subOut
    cases hx : firstFrom (dotOk text) text.size (text.size + 1 - p) p with
    | none =>
      rw [show nextOf (dotOk text) (· + 1) text.size p = none by unfold nextOf; rw [hx]; rfl]
      have hn := firstFrom_none (by omega) hx
      rw [dot_plain text _ p text.size (Nat.le_refl _) hp (Nat.le_refl _) hn]
      have : text.toList.drop text.size = [] := by simp
      rw [this]
      simp [dotS]
    | some q =>
      rw [show nextOf (dotOk text) (· + 1) text.size p = some (q, q + 1) by unfold nextOf; rw [hx]; rfl]
      obtain ⟨h1, h2, h3, h4⟩ := firstFrom_ok hx
      rw [dot_plain text _ p q (Nat.le_refl _) h1 (by omega) h4]
      dsimp only
      rw [List.append_assoc]
      congr 1
      rw [dot_out text f (q + 1) (by omega) (by omega), drop_cons text h2, bol_next]
      unfold dotOk isDot at h3
      conv => rhs; unfold dotS
      rw [h3, beq_iff_eq.mp (Bool.and_eq_true_iff.mp h3).2]
      rfl

def fixL (l : List Nat) : List Nat := fixS false l
def dotL (l : List Nat) : List Nat := dotS true l
theorem fix_whole (text : Array Nat) : subOut (nextOf (isEol text) (eolEnd text) text.size) text #[13, 10] (text.size + 1) 0 = fixL text.toList := by
  rw [fix_out text _ 0 (by omega) (Nat.zero_le _)]; rfl
theorem dot_whole (text : Array Nat) : subOut (nextOf (dotOk text) (· + 1) text.size) text #[46, 46] (text.size + 1) 0 = dotL text.toList := by
  rw [dot_out text _ 0 (by omega) (Nat.zero_le _)]; rfl

theorem fix_find (text : Array Nat) (p : Nat) (hp : p ≤ text.size) : match nextOf (isEol text) (eolEnd text) text.size p with
      | some (q, e) => (p ≤ q ∧ q < e ∧ e ≤ text.size) ∧ ∃ n, n ≤ 2 ^ 60 ∧ Hit (it n (forSearch codeEol text 0 p text.size false)) q e
      | none => ∃ n, n ≤ 2 ^ 60 ∧ Miss (it n (forSearch codeEol text 0 p text.size false)) := by
  obtain ⟨n, h1, h2⟩ := eol_search text p hp
  unfold nextOf
  cases hx : firstFrom (isEol text) text.size (text.size + 1 - p) p with
  | none =>
    rw [hx] at h2
    exact ⟨n, Nat.le_trans h1 (by decide), h2⟩
  | some q =>
    rw [hx] at h2
    obtain ⟨h3, h4, h5, h6⟩ := firstFrom_ok hx
    exact ⟨⟨h3, (eolEnd_in text h4).1, (eolEnd_in text h4).2⟩, n, Nat.le_trans h1 (by decide), h2⟩
theorem dot_find (text : Array Nat) (hts : text.size ≤ 200000) (p : Nat) (hp : p ≤ text.size) : match nextOf (dotOk text) (· + 1) text.size p with
      | some (q, e) => (p ≤ q ∧ q < e ∧ e ≤ text.size) ∧ ∃ n, n ≤ 2 ^ 60 ∧ Hit (it n (forSearch codeDot text 0 p text.size false)) q e
      | none => ∃ n, n ≤ 2 ^ 60 ∧ Miss (it n (forSearch codeDot text 0 p text.size false)) := by
  obtain ⟨n, h1, h2⟩ := dot_search text p hp
  unfold nextOf
  cases hx : firstFrom (dotOk text) text.size (text.size + 1 - p) p with
  | none =>
    rw [hx] at h2
    exact ⟨n, by omega, h2⟩
  | some q =>
    rw [hx] at h2
    obtain ⟨h3, h4, h5, h6⟩ := firstFrom_ok hx
    exact ⟨⟨h3, Nat.lt_succ_self _, h4⟩, n, by omega, h2⟩

section
variable {prog : Program} {w : World} {A : Around} {E : Value → Shared → Prop} {s : Shared}

theorem call_str (x : PySem.Str) (t : Tok) (h : Heap) : Looks (model prog w) h (specialOf (.str x t) (PySem.Str.ofString "__call__")) none := Looks.of_peek (in_nil h) (by kernel_rfl)
theorem call_bytes (x : Array UInt8) (t : Tok) (h : Heap) : Looks (model prog w) h (specialOf (.bytes x t) (PySem.Str.ofString "__call__")) none := Looks.of_peek (in_nil h) (by kernel_rfl)

/-- the ends: _twin_re_3.sub(CRLF, text) -/
theorem sub_eol {a : Addr} (P : PatAt s.heap a codeEol 0) (hT : s.TypeIs (.ref a) "re.Pattern") (x : PySem.Str) (t rt : Tok) (hts : x.cps.size ≤ 200000) {Q : Value → Shared → Prop}
    (hq : ∀ h' tk t', Keep s.heap h' → Q (.str ⟨(fixL x.cps.toList).toArray⟩ t') { s with heap := h', toks := tk }) :
    wpAny (model prog w) A (call (.builtin "re.Pattern.sub") [.ref a, .str ⟨#[13, 10]⟩ rt, .str x t]) Q E s := by
  refine sub_call (kd_str x.cps #[13, 10] t rt hts) P hT (call_str _ _) (.inl ⟨_, fun _ => Looks.of_pure rfl, by decide +kernel⟩) hts (by decide) _ (fix_find x.cps) fun h' tk t' kp => ?_
  rw [fix_whole]
  exact hq h' tk t' kp
/-- the dots of a text: _twin_re_1.sub('..', text) -/
theorem sub_dot {a : Addr} (P : PatAt s.heap a codeDot 0) (hT : s.TypeIs (.ref a) "re.Pattern") (x : PySem.Str) (t rt : Tok) (hts : x.cps.size ≤ 200000) {Q : Value → Shared → Prop}
    (hq : ∀ h' tk t', Keep s.heap h' → Q (.str ⟨(dotL x.cps.toList).toArray⟩ t') { s with heap := h', toks := tk }) :
    wpAny (model prog w) A (call (.builtin "re.Pattern.sub") [.ref a, .str ⟨#[46, 46]⟩ rt, .str x t]) Q E s := by
  refine sub_call (kd_str x.cps #[46, 46] t rt hts) P hT (call_str _ _) (.inl ⟨_, fun _ => Looks.of_pure rfl, by decide +kernel⟩) hts (by decide) _ (dot_find x.cps hts) fun h' tk t' kp => ?_
  rw [dot_whole]
  exact hq h' tk t' kp
/-- the dots of octets: _twin_re_2.sub(b'..', octets) -/
theorem sub_dotB {a : Addr} (P : PatAt s.heap a codeDot 1) (hT : s.TypeIs (.ref a) "re.Pattern") (b : Array UInt8) (t rt : Tok) (hts : b.size ≤ 200000) {Q : Value → Shared → Prop}
    (hq : ∀ h' tk t', Keep s.heap h' → Q (.bytes (by8 (dotL (b.toList.map (·.toNat))).toArray) t') { s with heap := h', toks := tk }) :
    wpAny (model prog w) A (call (.builtin "re.Pattern.sub") [.ref a, .bytes (by8 #[46, 46]) rt, .bytes b t]) Q E s := by
  refine sub_call (kd_bytes b #[46, 46] t rt hts) P hT (call_bytes _ _) (.inr ⟨fun h => Looks.of_peek (in_nil h) (by kernel_rfl), by8 #[46, 46], fun h => Looks.of_peek (in_nil h) (by kernel_rfl), by decide +kernel⟩) (by simpa using hts) (by decide) _ (dot_find (b.map (·.toNat)) (by simpa using hts)) fun h' tk t' kp => ?_
  rw [dot_whole, Array.toList_map]
  exact hq h' tk t' kp
end
end Mine
end

section
set_option maxRecDepth 100000
namespace Mine
open PySem PySem.Sre PySem.W PySem.Builtin.Re PySem.Builtin.Bytes

theorem look_ga : typeLookup (.type "re.Pattern") (PySem.Str.ofString "__getattribute__") = pure (some (.builtin "object.__getattribute__")) := by rw [typeLookup_type, builtinLookup_eq_fast]; kernel_rfl
theorem look_gan : typeLookup (.type "re.Pattern") (PySem.Str.ofString "__getattr__") = pure none := by rw [typeLookup_type, builtinLookup_eq_fast]; kernel_rfl
theorem type_sub : typeOf (.builtin "re.Pattern.sub") = pure (.type "method_descriptor") := by show builtinType _ = _; rw [builtinType_eq_fast]; kernel_rfl
theorem canon_ga : (Manifest.canonical "object.__getattribute__" != "object.__getattribute__") = false := by decide +kernel

section
variable {M : Model} {A : Around} {E : Value → Shared → Prop} {s : Shared}
theorem getSub {a : Addr} {o : Obj} {pl : Sem Bool} {Q : Value × List Value → Shared → Prop} (ho : s.heap.get? a = some o) (hc : o.cls = .type "re.Pattern") (hd : o.dict = none)
    (h : Q (.builtin "re.Pattern.sub", [.ref a]) s) : wpAny M A (getMethod (.ref a) (PySem.Str.ofString "sub") pl) Q E s := by
  have hT : s.TypeIs (.ref a) "re.Pattern" := ⟨o, ho, hc⟩
  unfold getMethod
  refine wpAny_bind (wpAny_specialOf hT look_ga ?_)
  show wpAny M A (if (Manifest.canonical "object.__getattribute__" != "object.__getattribute__") = true then _ else _) Q E s
  rw [canon_ga, if_neg Bool.false_ne_true]
  refine wpAny_bind (wpAny_specialOf hT look_gan ?_)
  refine wpAny_bind (wpAny_specialOf hT slot_sub.lookup ?_)
  refine wpAny_bind (wpAny_of_eq type_sub ?_)
  refine wpAny_bind (wpAny_load ho ?_)
  rw [hd]
  exact wpAny_bind (wpAny_rule (wpAny_pure h))
end
end Mine
end

section
set_option maxRecDepth 100000
namespace Mine
open PySem PySem.W PyProof.Rows

theorem enter {prog : Program} {w : World} {A : Around} {Q : Value → Shared → Prop} {E : Value → Shared → Prop} {s : Shared} {name : Str} {params : Arguments} {body : List Stmt} {scope : Scope}
    {pm cd doc : Value} {a : Addr} {o : Obj} {args : List Value} (binds : List (Str × Value))
    (hroom : A.depth < recursionLimit) (ho : s.heap.get? a = some o) (hdata : o.data = .func (Calls.docDef name params body scope pm cd doc)) (hlim : s.heap.NoLimit) (hcd : s.heap.CodeRec cd name)
    (hbind : bindArgs (Calls.docDef name params body scope pm cd doc) ⟨args, []⟩ = pure binds)
    (hloc : ∀ x ∈ binds, scope.names.lookup x.1 = some .local)
    (h : ∀ h₁, Keep s.heap h₁ → Fr s.heap s.heap.objs.size h₁ (fun x => binds.reverse.lookup x) →
      wpAny (model prog w) (A.deeper (envOf name scope s.heap.objs.size a cd)) (execs body (envOf name scope s.heap.objs.size a cd))
        (fun f s' => Q (match f with | .ret v => v | _ => .none) s') (fun _ _ => False)
        { s with heap := h₁, toks := s.toks + binds.length })
    (hco : scope.isCoroutine = false) (hgen : scope.isGenerator = false) (hk : scope.kind = .function)
    (hcell : ∀ x ∈ scope.names, x.2 ≠ .cell) :
    wpAny (model prog w) A (call (.ref a) args) Q E s := by
  refine wpAny_call (call_plain_ret hroom ho hdata hlim hcd hbind hloc (fun h₁ F => ?_) hco hgen hk hcell)
  exact h h₁ F.keep F

theorem enterK {K : Frag} {prog : Program} {w : World} {A : Around} {Q : Value → Shared → Prop} {E : Value → Shared → Prop} {s : Shared} {name qual : Str} {params : Arguments} {body : List Stmt} {scope : Scope}
    {dV kV doc pm cdv ct oc : Value} {an od : Option Addr} {osl : Array (Option Value)} {f : Addr} {args : List Value} (binds : List (Str × Value))
    (hroom : A.depth < recursionLimit) (X : K.In s.heap) (ho : K.lookup f = some ⟨oc, od, .func (fnOf name qual params body scope dV kV doc pm an cdv ct), osl⟩) (hcd : codeIn K cdv qual = true) (hlim : s.heap.NoLimit)
    (hbind : BindsTo s (fnOf name qual params body scope dV kV doc pm an cdv ct) ⟨args, []⟩ binds)
    (hloc : ∀ x ∈ binds, scope.names.lookup x.1 = some .local)
    (h : ∀ h₁, Keep s.heap h₁ → Fr s.heap s.heap.objs.size h₁ (fun x => binds.reverse.lookup x) → News s.heap s.heap.objs.size h₁ [] → K.In h₁ →
      wpAny (model prog w) (A.deeper (envOf qual scope s.heap.objs.size f cdv)) (execs body (envOf qual scope s.heap.objs.size f cdv))
        (fun f s' => Q (match f with | .ret v => v | _ => .none) s') (fun _ _ => False)
        { s with heap := h₁, toks := s.toks + binds.length })
    (hco : scope.isCoroutine = false) (hgen : scope.isGenerator = false) (hk : scope.kind = .function)
    (hcell : ∀ x ∈ scope.names, x.2 ≠ .cell) :
    wpAny (model prog w) A (call (.ref f) args) Q E s := by
  refine wpAny_call (codeAny_call_def (fd := fnOf name qual params body scope dV kV doc pm an cdv ct) (body := body) (binds := binds) hroom (X _ _ ho) rfl hlim (codeRec_of X hcd) rfl hbind hcell hloc (fun h₁ hns hk₁ => ?_) hco hgen hk)
  exact wpAny_mono (h h₁ hk₁ ⟨hns, hk₁, Nat.le_refl _⟩ News.nil (X.keeps hk₁)) (fun _ _ x => x) fun _ _ x => x.elim

/-- a goal that the walk leaves to the hand -/
def Halt (P : Prop) : Prop := P
theorem halt {P : Prop} (h : Halt P) : P := h

theorem lit_crlf : Str.ofString "\r\n" = ⟨#[13, 10]⟩ := by decide +kernel
theorem lit_dots : Str.ofString ".." = ⟨#[46, 46]⟩ := by decide +kernel
end Mine
end

section
set_option maxRecDepth 100000
namespace Mine
open PySem PySem.W PyProof.Rows

section
variable {prog : Program} {w : World} {A : Around} {E : Value → Shared → Prop} {s : Shared} {K : Frag} {p : Program} {loose : List Str} {mg mb : Str → Option Value}
  {cn : Str} {cs scope : Scope} {L a C : Addr} {ccd : Value} {pos pf px pe pv : Pos} {f x : Str}

/-- f(x) within a comprehension's block, f a built-in, x the block's own name -/
theorem elt_call1 {id : String} {v : Value} {m : Str → Option Value} {Q : Value → Shared → Prop} (X : K.In s.heap) (T : TopRead p loose mg mb s.heap) (e : nsIn K mainGlobals f = some none) (hv : bootBuiltins f = some (.builtin id)) (hn : f ≠ "__name__")
    (hk : scope.kind = .function) (hf : scope.names.lookup f = some .globalImplicit) (hx : scope.names.lookup x = some .local) (hC : s.heap.Ns C m) (hm : m x = some v)
    (hd : (f == ("__debug__" : Str)) = false) (hd' : (x == ("__debug__" : Str)) = false)
    (h : wpAny (model prog w) A (call (.builtin id) [v]) Q E s) :
    wpAny (model prog w) A (eval (.Call (.Name f pf) [.Name x px] [] pos) (compEnv scope C (envOf cn cs L a ccd))) Q E s := by
  refine Call_ (Calls.Name_function_global (env := compEnv scope C (envOf cn cs L a ccd)) hk hf ?_ hd)
  refine Calls.loadGlobal_builtin (mg := mg) (mb := mb) T.g (mg_none_of X T.g e) T.b ((T.builtins f hn).trans hv) ?_
  refine callWith_builtin1 (args_cons ?_)
  refine wpAny_Name (wpAny_loadName_local (env := compEnv scope C (envOf cn cs L a ccd)) hk hx hC hm ?_) hd'
  exact args_nil h

/-- [ord(x) for x in ..] over a text -/
theorem comp_ord {iter : Expr} {Q : Value → Shared → Prop} (hh : A.handled = none) (hfree : ∀ y ∈ scope.names, y.2 ≠ .free) (hcell : ∀ y ∈ scope.names, y.2 ≠ .cell) (hk : scope.kind = .function)
    (hnames : ∀ y ∈ scope.names, y.2 = .local → scope.names.lookup y.1 = some .local) (hf : scope.names.lookup (Str.ofString "ord") = some .globalImplicit) (hx : scope.names.lookup x = some .local) (hd' : (x == ("__debug__" : Str)) = false)
    (e : nsIn K mainGlobals (Str.ofString "ord") = some none)
    (hi : wpAny (model prog w) A (eval iter (envOf cn cs L a ccd)) (fun v s₁ => Halt (∃ y t, v = .str y t ∧ y.cps.size ≤ sizeLine ∧ K.In s₁.heap ∧ TopRead p loose mg mb s₁.heap ∧
      ∀ D h' tk vs, Keep s₁.heap h' → h'.IsList D vs → IntsAre vs.toList (y.cps.toList.map Int.ofNat) → Q (.ref D) { s₁ with heap := h', toks := tk })) E s)
    (hs : ∀ z, foldedSetIterable iter (envOf cn cs L a ccd) z = pure z := by intro _; rfl) :
    wpAny (model prog w) A (eval (.ListComp (.Call (.Name (Str.ofString "ord") pf) [.Name x pe] [] pv) [⟨.Name x px, iter, [], 0⟩] scope pos) (envOf cn cs L a ccd)) Q E s := by
  refine wpAny_ListComp_walk (fun _ => true) (fun v y => ∀ c t, v = .str ⟨#[c]⟩ t → ∃ u, y = .int (c : Nat) u) hfree hcell hk hnames hx (wpAny_mono hi (fun v s₁ h => ?_) fun _ _ x => x) hs
  obtain ⟨y, t, rfl, hsz, X, T, hq⟩ := h
  refine wpAny_pyIter_str fun o St W hst => ?_
  refine ⟨_, _, _, _, _, _, rfl, W A hh, hsz, hst, ?_, ?_, ?_⟩
  · intro b hb
    rw [List.mem_singleton.mp hb]
    simp [Heap.size_push]
  · refine ⟨fun C i v s₃ m₃ E' _ _ _ _ _ => wpAny_pure ⟨rfl, s₃.heap, s₃.toks, rfl, fun _ _ e => e⟩, ?_⟩
    rintro C i v s₃ m₃ E' ⟨c, u, hc, rfl⟩ - hC hm hkeep -
    have kp : Keep s₁.heap s₃.heap := fun b o' e => hkeep b o' (fun hb => by rw [List.mem_singleton.mp hb] at e; rw [heap_next] at e; cases e) (Heap.get?_push_of_some _ e)
    refine elt_call1 (X.keeps kp) (T.keeps kp) e (by boot_by_name) (by decide +kernel) hk hf hx hC hm (by decide +kernel) hd' ?_
    refine P.ord_of_char ⟨?_, s₃.heap, _, rfl, fun _ _ e => e⟩
    intro c' t' he
    have : c' = c := by
      injection he with h1 h2
      injection h1 with h1
      simpa using h1.symm
    subst this
    exact ⟨_, rfl⟩
  · intro D h' tk ys vs hD hl _ hlen hP hF hkeep
    have kp : Keep s₁.heap h' := fun b o' e => hkeep b o' (fun hb => by rw [List.mem_singleton.mp hb] at e; rw [heap_next] at e; cases e) (Heap.get?_push_of_some _ e)
    refine hq D h' tk ys kp hl ?_
    rw [List.filter_eq_self.mpr (fun _ _ => rfl)] at hF
    have gen : ∀ (vs : List Value) (ys : List Value) (cs : List Nat), Paired (fun (v y : Value) => ∀ c t, v = .str ⟨#[c]⟩ t → ∃ u, y = .int (c : Nat) u) vs ys → vs.length = cs.length → (∀ (j : Nat) (v : Value), vs[j]? = some v → ∃ c u, cs[j]? = some c ∧ v = .str ⟨#[c]⟩ u) → IntsAre ys (cs.map Int.ofNat) := by
      intro vs ys cs hF
      induction hF generalizing cs with
      | nil =>
        intro hl _
        cases cs with
        | nil => exact .nil
        | cons c r => cases hl
      | cons h _ ih =>
        intro hl hp
        cases cs with
        | nil => cases hl
        | cons c r =>
          obtain ⟨c', u, e1, e2⟩ := hp 0 _ rfl
          cases e1
          obtain ⟨u', rfl⟩ := h _ _ e2
          exact .cons _ _ (ih r (by simpa using hl) fun j v hj => hp (j + 1) v hj)
    exact gen vs ys.toList y.cps.toList hF (by simpa using hlen) (fun j v hj => by
      obtain ⟨c, u, h1, h2⟩ := hP j v hj
      exact ⟨c, u, by simpa using h1, h2⟩)

theorem texts_of : ∀ {vs ys : List Value} {cs : List Nat}, Paired (fun (v y : Value) => ∀ c t, v = .int (c : Nat) t → ∃ u, y = .str ⟨#[c]⟩ u) vs ys → vs.length = cs.length → (∀ (j : Nat) v, vs[j]? = some v → ∃ c u, cs[j]? = some c ∧ v = .int (c : Nat) u) →
    ∃ l : List (Str × Tok), ys = strValues l ∧ l.map (·.1) = cs.map fun c => ⟨#[c]⟩ := by
  intro vs ys cs hF
  induction hF generalizing cs with
  | nil =>
    intro hl _
    cases cs with
    | nil => exact ⟨[], rfl, rfl⟩
    | cons c r => cases hl
  | cons h _ ih =>
    intro hl hp
    cases cs with
    | nil => cases hl
    | cons c r =>
      obtain ⟨c', u, e1, e2⟩ := hp 0 _ rfl
      cases e1
      obtain ⟨u', rfl⟩ := h _ _ e2
      obtain ⟨l, rfl, hl2⟩ := ih (cs := r) (by simpa using hl) fun j v hj => hp (j + 1) v hj
      exact ⟨(⟨#[c]⟩, u') :: l, rfl, by simp [hl2]⟩

/-- [chr(x) for x in ..] over octets -/
theorem comp_chr {iter : Expr} {Q : Value → Shared → Prop} (hh : A.handled = none) (hfree : ∀ y ∈ scope.names, y.2 ≠ .free) (hcell : ∀ y ∈ scope.names, y.2 ≠ .cell) (hk : scope.kind = .function)
    (hnames : ∀ y ∈ scope.names, y.2 = .local → scope.names.lookup y.1 = some .local) (hf : scope.names.lookup (Str.ofString "chr") = some .globalImplicit) (hx : scope.names.lookup x = some .local) (hd' : (x == ("__debug__" : Str)) = false)
    (e : nsIn K mainGlobals (Str.ofString "chr") = some none)
    (hi : wpAny (model prog w) A (eval iter (envOf cn cs L a ccd)) (fun v s₁ => Halt (∃ (y : Array UInt8) (t : Tok), v = .bytes y t ∧ y.size ≤ sizeLine ∧ K.In s₁.heap ∧ TopRead p loose mg mb s₁.heap ∧
      ∀ D h' tk (l : List (Str × Tok)), Keep s₁.heap h' → h'.IsList D (strValues l).toArray → l.map (·.1) = (y.toList.map (·.toNat)).map (fun c => ⟨#[c]⟩) → Q (.ref D) { s₁ with heap := h', toks := tk })) E s)
    (hs : ∀ z, foldedSetIterable iter (envOf cn cs L a ccd) z = pure z := by intro _; rfl) :
    wpAny (model prog w) A (eval (.ListComp (.Call (.Name (Str.ofString "chr") pf) [.Name x pe] [] pv) [⟨.Name x px, iter, [], 0⟩] scope pos) (envOf cn cs L a ccd)) Q E s := by
  refine wpAny_ListComp_walk (fun _ => true) (fun v y => ∀ c t, v = .int (c : Nat) t → ∃ u, y = .str ⟨#[c]⟩ u) hfree hcell hk hnames hx (wpAny_mono hi (fun v s₁ h => ?_) fun _ _ x => x) hs
  obtain ⟨y, t, rfl, hsz, X, T, hq⟩ := h
  refine KBw.pyIter_bytes ?_
  refine ⟨_, _, _, _, _, _, rfl, KBw.walks hh _ y t, hsz, ⟨_, Heap.get?_push_size _ rfl, rfl, rfl⟩, ?_, ?_, ?_⟩
  · intro b hb
    rw [List.mem_singleton.mp hb]
    simp [Heap.size_push]
  · refine ⟨fun C i v s₃ m₃ E' _ _ _ _ _ => wpAny_pure ⟨rfl, s₃.heap, s₃.toks, rfl, fun _ _ e => e⟩, ?_⟩
    rintro C i v s₃ m₃ E' ⟨c, u, hc, rfl⟩ - hC hm hkeep -
    have kp : Keep s₁.heap s₃.heap := fun b o' e => hkeep b o' (fun hb => by rw [List.mem_singleton.mp hb] at e; rw [heap_next] at e; cases e) (Heap.get?_push_of_some _ e)
    refine elt_call1 (X.keeps kp) (T.keeps kp) e (by boot_by_name) (by decide +kernel) hk hf hx hC hm (by decide +kernel) hd' ?_
    have hlt : c.toNat < 256 := UInt8.toNat_lt c
    refine chr_of_range (by omega) (by omega) ⟨?_, s₃.heap, _, rfl, fun _ _ e => e⟩
    intro c' t' he
    injection he with h1 h2
    have : c' = c.toNat := by omega
    subst this
    exact ⟨_, rfl⟩
  · intro D h' tk ys vs hD hl _ hlen hP hF hkeep
    have kp : Keep s₁.heap h' := fun b o' e => hkeep b o' (fun hb => by rw [List.mem_singleton.mp hb] at e; rw [heap_next] at e; cases e) (Heap.get?_push_of_some _ e)
    rw [List.filter_eq_self.mpr (fun _ _ => rfl)] at hF
    obtain ⟨l, h1, h2⟩ := texts_of (cs := y.toList.map (·.toNat)) hF (by simpa using hlen) (fun j v hj => by
      obtain ⟨c, u, h1, h2⟩ := hP j v hj
      exact ⟨c.toNat, u, by simp [h1], h2⟩)
    refine hq D h' tk l kp ?_ h2
    have : ys = (strValues l).toArray := by rw [← h1]
    rw [← this]; exact hl

/-- ''.join of one-sign texts -/
theorem join_signs {D : Addr} {l : List (Str × Tok)} {cs : List Nat} {t : Tok} {Q : Value → Shared → Prop} (hl : s.heap.IsList D (strValues l).toArray) (hm : l.map (·.1) = cs.map fun c => ⟨#[c]⟩) (hsz : cs.length ≤ 500000)
    (hq : ∀ t' k, Q (.str ⟨cs.toArray⟩ t') { s with toks := k }) : wpAny (model prog w) A (call (.builtin "str.join") [.str ⟨#[]⟩ t, .ref D]) Q E s := by
  refine SC.join (x := ⟨#[]⟩) (texts := cs.map fun c => ⟨#[c]⟩) hl hm (PyProof.Rows.joinOk_of_weight ?_ (by decide)) fun t k => ?_
  · have : ∀ cs : List Nat, ((cs.map fun c => (⟨#[c]⟩ : Str)).map (·.length)).sum = cs.length := by
      intro cs
      induction cs with
      | nil => rfl
      | cons c r ih => rw [List.map_cons, List.map_cons, List.sum_cons, ih, List.length_cons]; show 1 + _ = _; omega
    rw [this, List.length_map]
    omega
  have e2 : Txt.join ⟨#[]⟩ (cs.map fun c => (⟨#[c]⟩ : Str)) = ⟨cs.toArray⟩ := by
    show PySem.Builtin.Str.glued _ _ = _
    rw [StrLaws.glued_eq_join]
    have gen : ∀ cs : List Nat, (Str.join ⟨#[]⟩ (cs.map fun c => (⟨#[c]⟩ : Str))).cps.toList = cs := by
      intro cs
      induction cs with
      | nil => rfl
      | cons c r ih =>
        cases r with
        | nil => rfl
        | cons c' r' =>
          show ((⟨#[c]⟩ : Str) ++ ⟨#[]⟩ ++ Str.join ⟨#[]⟩ ((c' :: r').map fun c => (⟨#[c]⟩ : Str))).cps.toList = _
          have : ∀ a b c : Str, (a ++ b ++ c).cps.toList = a.cps.toList ++ b.cps.toList ++ c.cps.toList := by
            intro a b c
            show ((a.cps ++ b.cps) ++ c.cps).toList = _
            simp
          rw [this, ih]
          simp
    have := gen cs
    cases hj : Str.join ⟨#[]⟩ (cs.map fun c => (⟨#[c]⟩ : Str)) with
    | mk cps => rw [hj] at this; simp only at this; rw [← this]
  rw [e2]
  exact hq t k
end
end Mine
end

section
set_option maxRecDepth 100000
namespace Mine
open PySem PySem.W PyProof.Rows

/-- the end of a turn: the ground may have grown; the iterators' own objects stand -/
def Turn (L : Addr) (own : List (Addr × Obj)) (wr : List Addr) (J : Heap → (Str → Option Value) → List (Addr × Obj) → Prop) (s₁ : Shared) (Q : Flow → Shared → Prop) (g : Heap) (f : Flow) (s₂ : Shared) : Prop :=
  match f with
  | .ret v => Q (.ret v) s₂
  | .brk => Q .next s₂
  | _ => ∃ g' h' tk m' news', s₂ = { s₁ with heap := h', toks := tk } ∧ Keep g g' ∧ Fr g' L h' m' ∧ News g' L h' (news' ++ own) ∧ (∀ p ∈ news', p.1 ∉ wr) ∧ J g' m' news'
theorem Turn.next {L : Addr} {own news' : List (Addr × Obj)} {wr : List Addr} {J : Heap → (Str → Option Value) → List (Addr × Obj) → Prop} {s₁ : Shared} {Q : Flow → Shared → Prop} {g g' h' : Heap} {tk : Nat} {m' : Str → Option Value}
    (k : Keep g g') (F : Fr g' L h' m') (N : News g' L h' (news' ++ own)) (hw : ∀ p ∈ news', p.1 ∉ wr) (hj : J g' m' news') : Turn L own wr J s₁ Q g .next { s₁ with heap := h', toks := tk } :=
  ⟨g', h', tk, m', news', rfl, k, F, N, hw, hj⟩

theorem News.swap {g h : Heap} {L : Addr} {a b : List (Addr × Obj)} (N : News g L h (a ++ b)) : News g L h (b ++ a) := fun p hp => N p (by
  rcases List.mem_append.mp hp with h | h
  · exact List.mem_append_right _ h
  · exact List.mem_append_left _ h)

section
variable {prog : Program} {w : World} {A : Around} {E : Value → Shared → Prop} {s : Shared} {env : Env} {target : Expr} {body : List Stmt} {Q : Flow → Shared → Prop}

theorem grow_loop {R : Result → Shared → Prop} {I : Addr} {fp wr : List Addr} {n : Nat} {P Md : Nat → Value → Heap → Prop} {St : Nat → Heap → Prop} {g : Heap} {m : Str → Option Value} {news : List (Addr × Obj)} (W : KTurns prog w A target I fp wr n P Md St)
    (live : ∀ i h, St i h → ∀ b ∈ wr, ∃ o, h.get? b = some o)
    (hfp : ∀ b ∈ fp, b ∉ wr → ∃ o, g.get? b = some o) (hLf : env.locals ∉ fp) (hwr : ∀ b ∈ wr, g.get? b = none) (hnw : ∀ p ∈ news, p.1 ∉ wr) (hst : St 0 s.heap) (F : Fr g env.locals s.heap m) (N : News g env.locals s.heap news)
    (J : Nat → Heap → (Str → Option Value) → List (Addr × Obj) → Prop) (h0 : J 0 g m news)
    (step : ∀ i v g₁ m₁ news₁ h₁ tk₁ own, i < n → P i v h₁ → J i g₁ m₁ news₁ → Keep g g₁ → (∀ p ∈ news₁, p.1 ∉ wr) → (∀ b ∈ wr, ∃ o, (b, o) ∈ own) → (∀ p ∈ own, p.1 ∈ wr) → St (i + 1) h₁ →
      Fr g₁ env.locals h₁ m₁ → News g₁ env.locals h₁ (news₁ ++ own) →
      wpAny (model prog w) A (assign target env v) (fun _ s₂ => wpAny (model prog w) A (execs body env)
        (Turn env.locals own wr (J (i + 1)) { s with heap := h₁, toks := tk₁ } (fun f s' => R (.ok f) s') g₁) (notedBy (model prog w) A env fun e s' => R (.error e) s') s₂) (notedBy (model prog w) A env fun e s' => R (.error e) s') { s with heap := h₁, toks := tk₁ })
    (hR : ∀ g' h' tk m' news', Keep g g' → Fr g' env.locals h' m' → News g' env.locals h' news' → J n g' m' news' → R (.ok .next) { s with heap := h', toks := tk }) :
    codeAny (model prog w) A (.forLoop target (.ref I) body [] env) R s := by
  have hLw : env.locals ∉ wr := fun h => hLf (W.sub _ h)
  refine codeAny_forLoop_any
    (fun k s' => ∃ g' h' tk m' news' i, s' = { s with heap := h', toks := tk } ∧ Keep g g' ∧ (∀ b ∈ wr, g'.get? b = none) ∧ St i h' ∧ Fr g' env.locals h' m' ∧ News g' env.locals h' news' ∧ (∀ p ∈ news', p.1 ∉ wr) ∧ J i g' m' news' ∧ i ≤ n ∧ k = n + 1 - i) ?_ (n + 1)
    ⟨g, s.heap, s.toks, m, news, 0, rfl, Keep.refl g, hwr, hst, F, N, hnw, h0, Nat.zero_le _, rfl⟩
  rintro k s' ⟨g', h', tk, m', news', i, rfl, kg, hwr', hst', F', N', hnw', hJ, hi, rfl⟩
  have old : ∀ b o, g'.get? b = some o → b ∉ wr := fun b o e hb => by rw [hwr' b hb] at e; cases e
  have next : ∀ h₁ : Heap, (∀ b o, b ∉ wr → h'.get? b = some o → h₁.get? b = some o) → Fr g' env.locals h₁ m' ∧ News g' env.locals h₁ news' := fun h₁ hk₁ =>
    ⟨⟨F'.ns.at' fun o e => hk₁ _ o hLw e, fun b o e => hk₁ b o (old b o e) (F'.keep b o e), F'.above⟩, fun p hp => ⟨hk₁ _ _ (hnw' p hp) (N' p hp).1, (N' p hp).2⟩⟩
  by_cases hlt : i < n
  · refine W.item i _ _ _ hlt hst' fun v h₁ tk₁ hMd hk₁ => ?_
    refine W.go i v _ _ _ hMd fun h₂ hP hst₂ hk₂ => ?_
    obtain ⟨F₂, N₂⟩ := next h₂ fun b o hb x => hk₂ b o hb (hk₁ b o hb x)
    have Nown : News g' env.locals h₂ (PyProof.Rows.ownOf g' fp h₂) := news_ownOf hLf
    have hown : ∀ b ∈ wr, ∃ o, (b, o) ∈ PyProof.Rows.ownOf g' fp h₂ := fun b hb => by
      obtain ⟨o, ho⟩ := live _ _ hst₂ b hb
      exact ⟨o, mem_ownOf (W.sub _ hb) (hwr' b hb) ho⟩
    have hsub : ∀ p ∈ PyProof.Rows.ownOf g' fp h₂, p.1 ∈ wr := fun p hp => Classical.byContradiction fun hn => by
      obtain ⟨o, ho⟩ := hfp _ (ownOf_sub p hp) hn
      have := (Nown p hp).2.2
      rw [kg _ _ ho] at this
      cases this
    refine wpAny_mono (step i v g' m' news' h₂ tk₁ (PyProof.Rows.ownOf g' fp h₂) hlt hP hJ kg hnw' hown hsub hst₂ F₂ (News.swap (Nown.append N₂))) (fun _ s₂ h₂' => wpAny_mono h₂' (fun f s₃ h₃ => ?_) fun _ _ e => e) fun _ _ e => e
    have fin : (∃ g'' h' tk m' news', s₃ = { ({ s with heap := h₂, toks := tk₁ } : Shared) with heap := h', toks := tk } ∧ Keep g' g'' ∧ Fr g'' env.locals h' m' ∧ News g'' env.locals h' (news' ++ PyProof.Rows.ownOf g' fp h₂) ∧ (∀ p ∈ news', p.1 ∉ wr) ∧ J (i + 1) g'' m' news') →
        ∃ m, m < n + 1 - i ∧ ∃ g' h' tk m' news' j, s₃ = { s with heap := h', toks := tk } ∧ Keep g g' ∧ (∀ b ∈ wr, g'.get? b = none) ∧ St j h' ∧ Fr g' env.locals h' m' ∧ News g' env.locals h' news' ∧ (∀ p ∈ news', p.1 ∉ wr) ∧ J j g' m' news' ∧ j ≤ n ∧ m = n + 1 - j := by
      rintro ⟨g'', h₃', tk₃, m₂, news₂, rfl, kg₂, F₃, N₃, ha₃, hJ₃⟩
      refine ⟨n + 1 - (i + 1), by omega, g'', h₃', tk₃, m₂, news₂, i + 1, rfl, kg.trans kg₂, fun b hb => ?_, ?_, F₃, fun p hp => N₃ p (List.mem_append_left _ hp), ha₃, hJ₃, hlt, rfl⟩
      · obtain ⟨o, ho⟩ := hown b hb
        exact (N₃ _ (List.mem_append_right _ ho)).2.2
      · refine W.frame _ _ _ hst₂ fun b hb o e => ?_
        cases hn : g'.get? b with
        | some o₀ =>
          have : o₀ = o := by have q := F₂.keep b o₀ hn; rw [e] at q; exact (Option.some.inj q).symm
          exact this ▸ F₃.keep b o₀ (kg₂ b o₀ hn)
        | none => exact (N₃ _ (List.mem_append_right _ (mem_ownOf hb hn e))).1
    cases f with
    | ret v => exact h₃
    | brk => exact h₃
    | cont => exact fin h₃
    | next => exact fin h₃
  · have hin : i = n := by omega
    subst hin
    refine W.done _ _ _ hst' fun h₁ tk₁ hk₁ => wpAny_execs_nil ?_
    obtain ⟨F₁, N₁⟩ := next h₁ hk₁
    exact hR g' h₁ tk₁ m' news' kg F₁ N₁ hJ

theorem go_name {prog : Program} {w : World} {A : Around} {x : Str} {px : Pos} {I v : Value} {s : Shared} {Q : Unit → Shared → Prop} {E : Value → Shared → Prop} (hq : Q () s) : wpAny (model prog w) A (letOwnedTupleGo (.Name x px) I v) Q E s := by
  exact wpAny_pure hq

end
end Mine
end

section
set_option maxRecDepth 100000
namespace Mine
open PySem PySem.W PyProof.Rows

section
variable {prog : Program} {w : World} {A : Around} {E : Value → Shared → Prop} {s : Shared} {cn : Str} {cs : Scope} {L aF : Addr} {ccd : Value} {body : List Stmt} {Q : Flow → Shared → Prop}

def RangeAt (h : Heap) (r : Addr) (a b : Int) : Prop := ∃ t u v, IsRange h r a b 1 t u v
theorem range1 {n : Int} {t : Tok} {Q : Value → Shared → Prop} (h : ∀ h' r tk, Keep s.heap h' → RangeAt h' r 0 n → Q (.ref r) { s with heap := h', toks := tk }) :
    wpAny (model prog w) A (call (.type "range") [.int n t]) Q E s := call_range_1 (h _ _ _ (Keep.push _ _) ⟨_, _, _, IsRange.new ..⟩)
theorem range2 {a b : Int} {t u : Tok} {Q : Value → Shared → Prop} (h : ∀ h' r tk, Keep s.heap h' → RangeAt h' r a b → Q (.ref r) { s with heap := h', toks := tk }) :
    wpAny (model prog w) A (call (.type "range") [.int a t, .int b u]) Q E s := call_range_2 (h _ _ _ (Keep.push _ _) ⟨_, _, _, IsRange.new ..⟩)

/-- a for over range(a, a + n) -/
theorem for_range {x : Str} {px pos : Pos} {iter : Expr} (hh : A.handled = none) (hx : (envOf cn cs L aF ccd).kindOf x = some .local) (hp : ((envOf cn cs L aF ccd).scope.kind == .class || ((envOf cn cs L aF ccd).scope.kind == .module && L != (envOf cn cs L aF ccd).globals)) = false)
    (J : Nat → Heap → (Str → Option Value) → List (Addr × Obj) → Prop)
    (h : wpAny (model prog w) A (eval iter (envOf cn cs L aF ccd)) (fun xv s₁ => Halt (∃ r a b g m news, xv = .ref r ∧ RangeAt s₁.heap r a b ∧ 0 ≤ a ∧ a ≤ 1000000 ∧ 0 ≤ b ∧ b ≤ 1000000 ∧ Fr g L s₁.heap m ∧ News g L s₁.heap news ∧ J 0 g m news ∧
      (∀ i t g₁ m₁ news₁ h₁ tk₁ own wr, i < (b - a).toNat → J i g₁ m₁ news₁ → Keep g g₁ → (∀ p ∈ news₁, p.1 ∉ wr) → (∀ q ∈ wr, ∃ o, (q, o) ∈ own) → (∀ p ∈ own, p.1 ∈ wr) →
        Fr g₁ L h₁ (fun y => if y = x then some (.int (a + (i : Int)) t) else m₁ y) → News g₁ L h₁ (news₁ ++ own) →
        wpAny (model prog w) A (execs body (envOf cn cs L aF ccd)) (Turn L own wr (J (i + 1)) { s₁ with heap := h₁, toks := tk₁ } Q g₁) (fun _ _ => False) { s₁ with heap := h₁, toks := tk₁ }) ∧
      (∀ g' h' tk m' news', Keep g g' → Fr g' L h' m' → News g' L h' news' → J (b - a).toNat g' m' news' → Q .next { s₁ with heap := h', toks := tk }))) (fun _ _ => False) s)
    (hs : ∀ z, foldedSetIterable iter (envOf cn cs L aF ccd) z = pure z := by intro _; rfl) :
    wpAny (model prog w) A (exec (.For (.Name x px) iter body [] pos) (envOf cn cs L aF ccd)) Q (fun _ _ => False) s := by
  refine wpAny_For (wpAny_mono h (fun xv s₁ h₁ => ?_) fun _ _ e => e) hs
  obtain ⟨r, a, b, g, m, news, rfl, ⟨t, u, v, hr⟩, ha0, ha1, hb0, hb1, F, N, h0, step, done⟩ := h₁
  refine wpAny_pyIter_range hr (small_one (by omega) (by omega) (by omega) (by omega)) ?_
  have W := KTurns.ofWalks (target := .Name x px) (Walks.range (prog := prog) (w := w) hh s₁.heap.objs.size a 1 (b - a).toNat) fun _ _ _ _ _ _ hq => go_name hq
  refine grow_loop (R := fun r s' => match r with | .ok f => Q f s' | .error e => cameBackBy (model prog w) A (envOf cn cs L aF ccd) (fun _ _ => False) e s') W ?_ ?_ ?_ ?_ ?_ ?_ (F.push _)
    (fun p hp => ⟨Heap.get?_push_of_some _ (N p hp).1, (N p hp).2⟩) J h0 ?_ ?_
  · rintro i h ho b hb
    rw [List.mem_singleton.mp hb]; exact ⟨_, ho⟩
  · intro b hb hn
    exact absurd hb hn
  · intro hm
    exact absurd F.ns.lt ((List.mem_singleton.mp hm) ▸ Nat.lt_irrefl _)
  · intro b hb
    rw [List.mem_singleton.mp hb]
    exact next_is_new F
  · intro p hp hI
    exact absurd (Heap.lt_size (N p hp).1) ((List.mem_singleton.mp hI) ▸ Nat.lt_irrefl _)
  · show IsRangeIter _ _ (a + ((0 : Nat) : Int) * 1) (((b - a).toNat : Int) - ((0 : Nat) : Int)) 1
    rw [show a + ((0 : Nat) : Int) * 1 = a by omega, show (((b - a).toNat : Int) - ((0 : Nat) : Int)) = Builtin.Range.rangeSize a b 1 by rw [rangeSize_nat]; omega]
    exact Heap.get?_push_size _ rfl
  · rintro i v g₁ m₁ news₁ h₁ tk₁ own hi ⟨t, rfl⟩ hJ kg hnw hown hsub hst F₁ N₁
    refine wpAny_passesOwn PassesOwn.never (wpAny_assign_Name (wpAny_storeName_local hx F₁.ns (fun h₂ hn₂ hs₂ => ?_) hp))
    refine wpAny_passesOwn PassesOwn.never (step i t g₁ m₁ news₁ h₂ _ own _ hi hJ kg hnw hown hsub ?_ (N₁.set hs₂))
    have F₂ := F₁.set hn₂ hs₂
    rw [Int.mul_one] at F₂
    exact F₂
  · exact fun g' h' tk m' news' kg F' N' hJ => done g' h' tk m' news' kg F' N' hJ

/-- a for over enumerate(list), two names -/
theorem for_enum {x y : Str} {px py pt pos : Pos} {k : Nat} {iter : Expr} (hh : A.handled = none) (hx : (envOf cn cs L aF ccd).kindOf x = some .local) (hy : (envOf cn cs L aF ccd).kindOf y = some .local) (hp : ((envOf cn cs L aF ccd).scope.kind == .class || ((envOf cn cs L aF ccd).scope.kind == .module && L != (envOf cn cs L aF ccd).globals)) = false)
    (J : Nat → Heap → (Str → Option Value) → List (Addr × Obj) → Prop)
    (h : wpAny (model prog w) A (eval iter (envOf cn cs L aF ccd)) (fun xv s₁ => Halt (∃ e it l items g m news, xv = .ref e ∧ IsEnum s₁.heap e it 0 .none ∧ s₁.heap.IsListIter it l 0 ∧ e ≠ it ∧ g.IsList l items ∧ g.get? e = none ∧ g.get? it = none ∧ e ≠ L ∧ it ≠ L ∧ (∀ p ∈ news, p.1 ≠ e ∧ p.1 ≠ it) ∧
      Fr g L s₁.heap m ∧ News g L s₁.heap news ∧ J 0 g m news ∧
      (∀ i t v g₁ m₁ news₁ h₁ tk₁ own wr, items[i]? = some v → J i g₁ m₁ news₁ → Keep g g₁ → (∀ p ∈ news₁, p.1 ∉ wr) → (∀ q ∈ wr, ∃ o, (q, o) ∈ own) → (∀ p ∈ own, p.1 ∈ wr) →
        Fr g₁ L h₁ (fun z => if z = y then some v else if z = x then some (.int (i : Int) t) else m₁ z) → News g₁ L h₁ (news₁ ++ own) →
        wpAny (model prog w) A (execs body (envOf cn cs L aF ccd)) (Turn L own wr (J (i + 1)) { s₁ with heap := h₁, toks := tk₁ } Q g₁) (fun _ _ => False) { s₁ with heap := h₁, toks := tk₁ }) ∧
      (∀ g' h' tk m' news', Keep g g' → Fr g' L h' m' → News g' L h' news' → J items.size g' m' news' → Q .next { s₁ with heap := h', toks := tk }))) (fun _ _ => False) s)
    (hs : ∀ z, foldedSetIterable iter (envOf cn cs L aF ccd) z = pure z := by intro _; rfl) :
    wpAny (model prog w) A (exec (.For (.Tuple [.Name x px, .Name y py] k pt) iter body [] pos) (envOf cn cs L aF ccd)) Q (fun _ _ => False) s := by
  refine wpAny_For (wpAny_mono h (fun xv s₁ h₁ => ?_) fun _ _ e => e) hs
  obtain ⟨e, it, l, items, g, m, news, rfl, he, hit, hei, hl, hge, hgi, hLe, hLi, hnews, F, N, h0, step, done⟩ := h₁
  have hle : l ≠ e := by rintro rfl; obtain ⟨o, ho, _⟩ := hl; rw [ho] at hge; cases hge
  have hli : l ≠ it := by rintro rfl; obtain ⟨o, ho, _⟩ := hl; rw [ho] at hgi; cases hgi
  have WT := WalksT.enumerate (prog := prog) (w := w) hh e it l hei hle hli items
  have hst : (∃ old, IsEnum s₁.heap e it 0 old) ∧ s₁.heap.IsListIter it l 0 ∧ s₁.heap.IsList l items := ⟨⟨_, he⟩, hit, hl.at fun o x => F.keep l o x⟩
  refine WT.self 0 _ _ _ hst ?_
  have W := KTurns.ofWalksU (elts := [.Name x px, .Name y py]) (k := k) (pos := pt) WT.toU
  refine grow_loop (R := fun r s' => match r with | .ok f => Q f s' | .error e => cameBackBy (model prog w) A (envOf cn cs L aF ccd) (fun _ _ => False) e s') W ?_ ?_ ?_ ?_ ?_ hst F N J h0 ?_ ?_
  · rintro i h ⟨⟨old, h1⟩, ⟨o, h2, _⟩, _⟩ b hb
    rcases List.mem_cons.mp hb with rfl | hb
    · exact ⟨_, h1⟩
    · rw [List.mem_singleton.mp hb]; exact ⟨o, h2⟩
  · intro b hb hn
    rcases List.mem_cons.mp hb with rfl | hb
    · exact absurd (List.mem_cons_self ..) hn
    · rcases List.mem_cons.mp hb with rfl | hb
      · exact absurd (List.mem_cons_of_mem _ (List.mem_singleton.mpr rfl)) hn
      · rw [List.mem_singleton.mp hb]
        obtain ⟨o, ho, _⟩ := hl
        exact ⟨o, ho⟩
  · intro hm
    rcases List.mem_cons.mp hm with q | hm
    · exact hLe q.symm
    · rcases List.mem_cons.mp hm with q | hm
      · exact hLi q.symm
      · obtain ⟨o, ho, _⟩ := hl
        exact absurd (Nat.lt_of_lt_of_le (Heap.lt_size ho) F.above) ((List.mem_singleton.mp hm) ▸ Nat.lt_irrefl _)
  · intro b hb
    rcases List.mem_cons.mp hb with rfl | hb
    · exact hge
    · rw [List.mem_singleton.mp hb]; exact hgi
  · intro p hp hI
    rcases List.mem_cons.mp hI with q | hI
    · exact (hnews p hp).1 q
    · exact (hnews p hp).2 (List.mem_singleton.mp hI)
  · rintro i v g₁ m₁ news₁ h₁ tk₁ own hi ⟨T, vals, rfl, ⟨t, v, hv, rfl⟩, hT⟩ hJ kg hnw hown hsub hst F₁ N₁
    refine wpAny_passesOwn PassesOwn.never ?_
    refine wpAny_assign_Tuple hh hT rfl rfl fun h₃ hx₃ => ?_
    replace hx₃ : Heap.ExtBut h₁.objs.size h₁ h₃ := hx₃
    have up₃ : Keep h₁ h₃ := fun b o z => hx₃ b o (Nat.ne_of_lt (Heap.lt_size z)) z
    have F₃ := F₁.keptAll up₃
    have N₃ := N₁.grown up₃
    show wpAny _ A (do holding [v] (assign (.Name x px) (envOf cn cs L aF ccd) (.int i t)); do holding [] (assign (.Name y py) (envOf cn cs L aF ccd) v); pure ()) _ _ _
    refine wpAny_bind (wpAny_holding (wpAny_assign_Name (wpAny_storeName_local hx F₃.ns (fun h₄ hn₄ hs₄ => ?_) hp)))
    replace hs₄ : Heap.SameBut L h₃ h₄ := hs₄
    have F₄ := F₃.set hn₄ hs₄
    refine wpAny_bind (wpAny_holding (wpAny_assign_Name (wpAny_storeName_local hy F₄.ns (fun h₅ hn₅ hs₅ => wpAny_pure ?_) hp)))
    replace hs₅ : Heap.SameBut L h₄ h₅ := hs₅
    exact wpAny_passesOwn PassesOwn.never (step i t v g₁ m₁ news₁ h₅ _ own _ hv hJ kg hnw hown hsub (F₄.set hn₅ hs₅) ((N₃.set hs₄).set hs₅))
  · exact fun g' h' tk m' news' kg F' N' hJ => done g' h' tk m' news' kg F' N' hJ
/-- a for over a list that stands on the ground -/
theorem for_list {x : Str} {px pos : Pos} {iter : Expr} (hh : A.handled = none) (hx : (envOf cn cs L aF ccd).kindOf x = some .local) (hp : ((envOf cn cs L aF ccd).scope.kind == .class || ((envOf cn cs L aF ccd).scope.kind == .module && L != (envOf cn cs L aF ccd).globals)) = false)
    (J : Nat → Heap → (Str → Option Value) → List (Addr × Obj) → Prop)
    (h : wpAny (model prog w) A (eval iter (envOf cn cs L aF ccd)) (fun xv s₁ => Halt (∃ l items g m news, xv = .ref l ∧ g.IsList l items ∧ Fr g L s₁.heap m ∧ News g L s₁.heap news ∧ J 0 g m news ∧
      (∀ i v g₁ m₁ news₁ h₁ tk₁ own wr, items[i]? = some v → J i g₁ m₁ news₁ → Keep g g₁ → (∀ p ∈ news₁, p.1 ∉ wr) → (∀ b ∈ wr, ∃ o, (b, o) ∈ own) → (∀ p ∈ own, p.1 ∈ wr) →
        Fr g₁ L h₁ (fun y => if y = x then some v else m₁ y) → News g₁ L h₁ (news₁ ++ own) →
        wpAny (model prog w) A (execs body (envOf cn cs L aF ccd)) (Turn L own wr (J (i + 1)) { s₁ with heap := h₁, toks := tk₁ } Q g₁) (fun _ _ => False) { s₁ with heap := h₁, toks := tk₁ }) ∧
      (∀ g' h' tk m' news', Keep g g' → Fr g' L h' m' → News g' L h' news' → J items.size g' m' news' → Q .next { s₁ with heap := h', toks := tk }))) (fun _ _ => False) s)
    (hs : ∀ z, foldedSetIterable iter (envOf cn cs L aF ccd) z = pure z := by intro _; rfl) :
    wpAny (model prog w) A (exec (.For (.Name x px) iter body [] pos) (envOf cn cs L aF ccd)) Q (fun _ _ => False) s := by
  refine wpAny_For (wpAny_mono h (fun xv s₁ h₁ => ?_) fun _ _ e => e) hs
  obtain ⟨l, items, g, m, news, rfl, hl, F, N, h0, step, done⟩ := h₁
  have hls : s₁.heap.IsList l items := hl.at fun o e => F.keep l o e
  obtain ⟨ol, hol, _⟩ := id hl
  have hlt : l < g.objs.size := Heap.lt_size hol
  have hne : l ≠ s₁.heap.objs.size := Nat.ne_of_lt (Nat.lt_trans (Nat.lt_of_lt_of_le hlt F.above) F.ns.lt)
  refine wpAny_pyIter_list hls ?_
  have W := KTurns.ofWalks (target := .Name x px) (Walks.list (prog := prog) (w := w) hh s₁.heap.objs.size l hne items) fun _ _ _ _ _ _ hq => go_name hq
  refine grow_loop (R := fun r s' => match r with | .ok f => Q f s' | .error e => cameBackBy (model prog w) A (envOf cn cs L aF ccd) (fun _ _ => False) e s') W ?_ ?_ ?_ ?_ ?_ ⟨⟨_, Heap.get?_push_size _ rfl, rfl, rfl⟩, hls.at fun o e => Heap.get?_push_of_some _ e⟩ (F.push _)
    (fun p hp => ⟨Heap.get?_push_of_some _ (N p hp).1, (N p hp).2⟩) J h0 ?_ ?_
  · rintro i h ⟨⟨o, ho, _⟩, _⟩ b hb
    rw [List.mem_singleton.mp hb]; exact ⟨o, ho⟩
  · intro b hb hn
    rcases List.mem_cons.mp hb with rfl | hb
    · exact absurd (List.mem_singleton.mpr rfl) hn
    · rw [List.mem_singleton.mp hb]; exact ⟨_, hol⟩
  · intro hm
    rcases List.mem_cons.mp hm with e | hm
    · exact absurd F.ns.lt (e ▸ Nat.lt_irrefl _)
    · exact absurd (Nat.lt_of_lt_of_le hlt F.above) ((List.mem_singleton.mp hm) ▸ Nat.lt_irrefl _)
  · intro b hb
    rw [List.mem_singleton.mp hb]
    exact next_is_new F
  · intro p hp hI
    exact absurd (Heap.lt_size (N p hp).1) ((List.mem_singleton.mp hI) ▸ Nat.lt_irrefl _)
  · intro i v g₁ m₁ news₁ h₁ tk₁ own hi hP hJ kg hnw hown hsub hst F₁ N₁
    refine wpAny_passesOwn PassesOwn.never (wpAny_assign_Name (wpAny_storeName_local hx F₁.ns (fun h₂ hn₂ hs₂ => ?_) hp)) |> fun z => wpAny_mono z (fun _ _ y => y) fun _ _ y => y
    exact wpAny_passesOwn PassesOwn.never (step i v g₁ m₁ news₁ h₂ _ own _ hP hJ kg hnw hown hsub (F₁.set hn₂ hs₂) (N₁.set hs₂))
  · exact fun g' h' tk m' news' kg F' N' hJ => done g' h' tk m' news' kg F' N' hJ
end
end Mine
end

section
set_option maxRecDepth 100000
namespace Mine
open PySem PySem.W PyProof.Rows

section
variable {prog : Program} {w : World} {A : Around} {E : Value → Shared → Prop} {s : Shared} {g : Heap} {L D : Addr} {m : Str → Option Value} {rest : List (Addr × Obj)}

theorem look_ne {c : Prop} [Decidable c] {α : Type} {a b r : α} (h : ¬ c) (e : b = r) : (if c then a else b) = r := by rw [if_neg h]; exact e
/-- apart from the iterators -/
theorem off_own {wr : List Addr} {own news : List (Addr × Obj)} (hsub : ∀ p ∈ own, p.1 ∈ wr) (hnw : ∀ p ∈ news, p.1 ∉ wr) {q : Addr × Obj} (hq : q ∈ news) : ∀ p ∈ own, p.1 ≠ q.1 :=
  fun p hp e => hnw q hq (e ▸ hsub p hp)

theorem append_hd {its : Array Value} {n : Nat} {x : Value} {Q : Value → Shared → Prop} (F : Fr g L s.heap m) (N : News g L s.heap ((D, listOf its n) :: rest)) (hne : ∀ p ∈ rest, p.1 ≠ D) (hsz : its.size ≤ sizeLine)
    (h : ∀ h', Fr g L h' m → News g L h' ((D, listOf (its.push x) (n + 1)) :: rest) → Q .none { s with heap := h' }) : wpAny (model prog w) A (call (.builtin "list.append") [.ref D, x]) Q E s :=
  append_K F N (Upd.head hne) h hsz

theorem method_append {its : Array Value} {n : Nat} {pl : Sem Bool} {Q : Value × List Value → Shared → Prop} (ho : s.heap.get? D = some (listOf its n)) (h : Q (.builtin "list.append", [.ref D]) s) :
    wpAny (model prog w) A (getMethod (.ref D) (Str.ofString "append") pl) Q E s := Calls.getMethod_list_append ho rfl rfl h

theorem set_hd {its : Array Value} {n : Nat} {k : Int} {t : Tok} {v : Value} {Q : Unit → Shared → Prop} (F : Fr g L s.heap m) (N : News g L s.heap ((D, listOf its n) :: rest)) (hne : ∀ p ∈ rest, p.1 ≠ D) (h0 : 0 ≤ k) (hfit : k < 2 ^ 63) (hn : k < its.size)
    (h : ∀ h', Fr g L h' m → News g L h' ((D, listOf (its.setIfInBounds k.toNat v) n) :: rest) → Q () { s with heap := h' }) : wpAny (model prog w) A (setItem (.ref D) (.int k t) v) Q E s := by
  have z := N (D, listOf its n) (List.mem_cons_self ..)
  refine ki_setAt z.1 h0 hfit hn (h _ (F.change (Heap.SameBut.update ..) z.2.1 z.2.2) ?_)
  refine news_set (pre := []) N (fun _ hp => nomatch hp) hne (Heap.SameBut.update ..) ?_
  rw [Heap.get?_update_self _ z.1 rfl]
  simp [Obj.mapSeq]

theorem isList_of {its : Array Value} {n : Nat} {h : Heap} (ho : h.get? D = some (listOf its n)) : h.IsList D its := ⟨_, ho, rfl, n, rfl⟩

/-- an item of a list, of a tuple, at a place within it -/
theorem item_list {value slice : Expr} {its : Array Value} {k : Int} {u : Tok} {v : Value} {Q : Value → Shared → Prop} (hl : s.heap.IsList D its) (h0 : 0 ≤ k) (hfit : k < 2 ^ 63) (hx : its[k.toNat]? = some v) (h : Q v s)
    (hs : subscripted slice false (.ref D) (.int k u) = operate [.ref D, .int k u] (getItem (.ref D) (.int k u)) := by with_unfolding_all rfl) :
    wpAny (model prog w) A (subscriptTail value slice (.ref D) (.int k u)) Q E s :=
  tail_any hl.typeIs slot_list_getitem.lookup (wpAny_getItem_list hl h0 hfit hx h) hs
theorem item_tup {value slice : Expr} {its : Array Value} {k : Int} {u : Tok} {v : Value} {Q : Value → Shared → Prop} (hl : IsTup s.heap D its) (h0 : 0 ≤ k) (hfit : k < 2 ^ 63) (hx : its[k.toNat]? = some v) (h : Q v s)
    (hs : subscripted slice false (.ref D) (.int k u) = operate [.ref D, .int k u] (getItem (.ref D) (.int k u)) := by with_unfolding_all rfl) :
    wpAny (model prog w) A (subscriptTail value slice (.ref D) (.int k u)) Q E s := by
  have hk : k.toNat < its.size := by
    cases hh : its[k.toNat]? with
    | none => rw [hh] at hx; cases hx
    | some z => exact (Array.getElem?_eq_some_iff.mp hh).1
  refine tail_any (T := "tuple") (id := "tuple.__getitem__") ?_ F.slot_tuple_getitem.lookup (PyProof.Rows.getItem_tuple hl (by omega) hfit (j := k.toNat) ?_ hx h) hs
  · exact hl.typeIs
  · unfold seqIndex?
    simp [h0]
    omega
end
end Mine
end

section
set_option maxRecDepth 100000
namespace Mine
open PySem PySem.W PyProof.Rows

section
variable {prog : Program} {w : World} {A : Around} {E : Value → Shared → Prop} {s : Shared} {cn : Str} {cs scope : Scope} {L a C : Addr} {ccd : Value} {pos px pe pv pb : Pos} {x : Str}

theorem ints_snoc : ∀ {vs : List Value} {ns : List Int}, IntsAre vs ns → ∀ (k : Int) (u : Tok), IntsAre (vs ++ [.int k u]) (ns ++ [k])
  | _, _, .nil, k, u => .cons k u .nil
  | _, _, .cons n t h, k, u => .cons n t (ints_snoc h k u)
theorem ints_item {vs : Array Value} {ns : List Int} (h : IntsAre vs.toList ns) {i : Nat} {v : Value} (hv : vs[i]? = some v) : ∃ k u, v = .int k u := by
  rw [← Array.getElem?_toList] at hv
  generalize vs.toList = l at h hv
  induction h generalizing i with
  | nil => simp at hv
  | cons n t _ ih =>
    cases i with
    | zero => simp at hv; exact ⟨n, t, hv.symm⟩
    | succ i => exact ih (by simpa using hv)
theorem ints_set {vs : Array Value} {ns : List Int} (h : IntsAre vs.toList ns) (i : Nat) (k : Int) (u : Tok) : IntsAre (vs.setIfInBounds i (.int k u)).toList (ns.set i k) := by
  rw [Array.toList_setIfInBounds]
  generalize vs.toList = l at h
  induction h generalizing i with
  | nil => exact .nil
  | cons n t h ih =>
    cases i with
    | zero => exact .cons k u h
    | succ i => exact .cons n t (ih i)

/-- a sign of the menu -/
def OfMenu (menu : Str) (y : Value) : Prop := ∃ c u, c ∈ menu.cps.toList ∧ y = .str ⟨#[c]⟩ u
theorem menu_texts {menu : Str} {R : Value → Value → Prop} : ∀ {vs ys : List Value}, Paired R vs ys → (∀ (j : Nat) v y, vs[j]? = some v → R v y → OfMenu menu y) →
    ∃ (l : List (Str × Tok)) (cs : List Nat), ys = strValues l ∧ l.map (·.1) = cs.map (fun c => ⟨#[c]⟩) ∧ cs.length = vs.length ∧ ∀ c ∈ cs, c ∈ menu.cps.toList := by
  intro vs ys hF
  induction hF with
  | nil => intro _; exact ⟨[], [], rfl, rfl, rfl, fun _ h => nomatch h⟩
  | cons h _ ih =>
    intro hp
    obtain ⟨c, u, hc, rfl⟩ := hp 0 _ _ rfl h
    obtain ⟨l, cs, rfl, h2, h3, h4⟩ := ih fun j v y hj => hp (j + 1) v y hj
    exact ⟨(⟨#[c]⟩, u) :: l, c :: cs, rfl, by simp [h2], by simp [h3], fun d hd => by
      rcases List.mem_cons.mp hd with rfl | hd
      · exact hc
      · exact h4 d hd⟩

/-- [menu[x % d] for x in ints] -/
theorem comp_menu {iter : Expr} {menu : Str} {d : Nat} {k1 k2 : Nat} {p1 p2 : Pos} {Q : Value → Shared → Prop} (hh : A.handled = none) (hfree : ∀ y ∈ scope.names, y.2 ≠ .free) (hcell : ∀ y ∈ scope.names, y.2 ≠ .cell) (hk : scope.kind = .function)
    (hnames : ∀ y ∈ scope.names, y.2 = .local → scope.names.lookup y.1 = some .local) (hx : scope.names.lookup x = some .local) (hd' : (x == ("__debug__" : Str)) = false)
    (hd : 0 < d) (hm : menu.cps.size = d) (hds : d < 1000)
    (hi : wpAny (model prog w) A (eval iter (envOf cn cs L a ccd)) (fun v s₁ => Halt (∃ l items ns, v = .ref l ∧ s₁.heap.IsList l items ∧ IntsAre items.toList ns ∧ items.size ≤ sizeLine ∧
      ∀ D h' tk (l : List (Str × Tok)) (cs : List Nat), Keep s₁.heap h' → h'.IsList D (strValues l).toArray → l.map (·.1) = cs.map (fun c => ⟨#[c]⟩) → cs.length = items.size → (∀ c ∈ cs, c ∈ menu.cps.toList) → Q (.ref D) { s₁ with heap := h', toks := tk })) E s)
    (hs : ∀ z, foldedSetIterable iter (envOf cn cs L a ccd) z = pure z := by intro _; rfl) :
    wpAny (model prog w) A (eval (.ListComp (.Subscript (.Constant (.str menu) k1 p1) (.BinOp (.Name x pe) .Mod (.Constant (.int (d : Int)) k2 p2) pb) pv) [⟨.Name x px, iter, [], 0⟩] scope pos) (envOf cn cs L a ccd)) Q E s := by
  refine wpAny_ListComp_walk (fun _ => true) (fun v y => (∃ n t, v = .int n t) → OfMenu menu y) hfree hcell hk hnames hx (wpAny_mono hi (fun v s₁ h => ?_) fun _ _ x => x) hs
  obtain ⟨l, items, ns, rfl, hl, hints, hsz, hq⟩ := h
  have hlt : l < s₁.heap.objs.size := by obtain ⟨o, ho, _⟩ := hl; exact Heap.lt_size ho
  refine wpAny_pyIter_list hl ?_
  refine ⟨_, _, _, _, _, _, rfl, Walks.list hh _ l (Nat.ne_of_lt hlt) items, hsz, ⟨⟨_, Heap.get?_push_size _ rfl, rfl, rfl⟩, hl.at fun o e => Heap.get?_push_of_some _ e⟩, ?_, ?_, ?_⟩
  · intro b hb
    rcases List.mem_cons.mp hb with rfl | hb
    · simp [Heap.size_push]
    · rw [List.mem_singleton.mp hb, Heap.size_push]
      exact Nat.lt_succ_of_lt hlt
  · refine ⟨fun C i v s₃ m₃ E' _ _ _ _ _ => wpAny_pure ⟨rfl, s₃.heap, s₃.toks, rfl, fun _ _ e => e⟩, ?_⟩
    rintro C i v s₃ m₃ E' hv - hC hm' hkeep -
    obtain ⟨n, t, rfl⟩ := ints_item hints hv
    refine Subscript_ (wpAny_Constant_str (wpAny_BinOp ?_))
    refine wpAny_Name (wpAny_loadName_local (env := compEnv scope C (envOf cn cs L a ccd)) hk hx hC hm' ?_) hd'
    refine wpAny_Constant_int ?_
    refine AutoIntOps.mod_1 (by simp; omega) ?_
    have hpos : (0 : Int) < d := by omega
    have e0 : n.fmod d = n % d := Int.fmod_eq_emod_of_nonneg _ (by omega)
    have hlo : 0 ≤ n.fmod d := by rw [e0]; exact Int.emod_nonneg _ (by omega)
    have hhi : n.fmod d < d := by rw [e0]; exact Int.emod_lt_of_pos _ hpos
    have hj : (n.fmod d).toNat < menu.cps.size := by omega
    refine subscriptTail_builtin (typeIs_str _ _ _) F.slot_str_getitem.lookup ?_
    refine P.getItem_str (c := menu.cps[(n.fmod d).toNat]) ?_ ?_ ⟨fun _ => ⟨_, _, Array.getElem_mem_toList hj, rfl⟩, s₃.heap, _, rfl, fun _ _ e => e⟩
    · simp; omega
    · have : seqIndex? (n.fmod d) menu.length = some (n.fmod d).toNat := by
        unfold seqIndex?
        have : menu.length = menu.cps.size := rfl
        simp [hlo]
        omega
      rw [this]
      simp [hj]
  · intro D h' tk ys vs hD hl' _ hlen hP hF hkeep
    have kp : Keep s₁.heap h' := fun b o' e => hkeep b o' (fun hb => by rw [List.mem_singleton.mp hb] at e; rw [heap_next] at e; cases e) (Heap.get?_push_of_some _ e)
    rw [List.filter_eq_self.mpr (fun _ _ => rfl)] at hF
    obtain ⟨l', cs', h1, h2, h3, h4⟩ := menu_texts (menu := menu) hF fun j v y hj hr => hr (ints_item hints (hP j v hj))
    refine hq D h' tk l' cs' kp ?_ h2 (h3.trans hlen) h4
    have : ys = (strValues l').toArray := by rw [← h1]
    rw [← this]; exact hl'
end
end Mine
end

section
set_option maxRecDepth 100000
namespace Mine
open PySem PySem.W PyProof.Rows

/-- what a def holds -/
def FnAt (K : Frag) (a : Addr) (body : List Stmt) (scope : Scope) : Prop := ∃ oc od fd osl, K.lookup a = some ⟨oc, od, .func fd, osl⟩ ∧ fd.body = .stmts body ∧ fd.scope = scope
theorem FnAt.inj {K : Frag} {a : Addr} {b b' : List Stmt} {c c' : Scope} : FnAt K a b c → FnAt K a b' c' → b = b' ∧ c = c' := by
  rintro ⟨oc, od, fd, osl, h, h1, h2⟩ ⟨oc', od', fd', osl', h', h1', h2'⟩
  rw [h] at h'
  injection h' with h'
  simp only [Obj.mk.injEq, Data.func.injEq] at h'
  obtain ⟨-, -, rfl, -⟩ := h'
  rw [h1] at h1'
  injection h1' with e
  exact ⟨e, h2.symm.trans h2'⟩
def nth : List Stmt → Nat → Stmt
  | a :: _, 0 => a
  | _ :: r, n + 1 => nth r n
  | [], _ => .Pass default
def forBody : Stmt → List Stmt
  | .For _ _ b _ _ => b
  | _ => []
/-- what a piece's three written forms are -/
def tupO (x y z : Str) (t₁ t₂ t₃ : Tok) : Obj := { cls := .type "tuple", data := .seq #[.str x t₁, .str y t₂, .str z t₃] }
def tupI (x y z : Int) (t₁ t₂ t₃ : Tok) : Obj := { cls := .type "tuple", data := .seq #[.int x t₁, .int y t₂, .int z t₃] }
theorem ne_trip {prog : Program} {w : World} {A : Around} {E : Value → Shared → Prop} {s : Shared} {a b : Addr} {x y z x' y' z' : Str} {t₁ t₂ t₃ u₁ u₂ u₃ : Tok} {Q : Value → Shared → Prop} (ha : s.heap.get? a = some (tupO x y z t₁ t₂ t₃)) (hb : s.heap.get? b = some (tupO x' y' z' u₁ u₂ u₃)) (hu : A.units < cLine)
    (h : Q (.bool (!(x == x' && y == y' && z == z'))) s) : wpAny (model prog w) A (compareOp .NotEq (.ref a) (.ref b)) Q E s := by
  have R := SeqAt.RcNeAt.tuples (A := A) (s := s) (l := a) (b := b) (items := #[.str x t₁, .str y t₂, .str z t₃]) (items2 := #[.str x' u₁, .str y' u₂, .str z' u₃]) (e := fun j => match j with | 0 => x == x' | 1 => y == y' | _ => z == z')
    ⟨_, ha, rfl, _, rfl⟩ ⟨_, hb, rfl, _, rfl⟩ hu (fun j h1 h2 => by
      match j, h1 with
      | 0, _ => exact SeqAt.EqAt.str_str x t₁ x' u₁
      | 1, _ => exact SeqAt.EqAt.str_str y t₂ y' u₂
      | 2, _ => exact SeqAt.EqAt.str_str z t₃ z' u₃
      | n + 3, h => exact absurd h (by simp))
  refine R prog w E Q ?_
  have e : (!((List.range (min (#[Value.str x t₁, .str y t₂, .str z t₃] : Array Value).size (#[Value.str x' u₁, .str y' u₂, .str z' u₃] : Array Value).size)).all (fun j => match j with | 0 => x == x' | 1 => y == y' | _ => z == z') && (#[Value.str x t₁, .str y t₂, .str z t₃] : Array Value).size == (#[Value.str x' u₁, .str y' u₂, .str z' u₃] : Array Value).size)) = !(x == x' && y == y' && z == z') := by
    show (!((List.range 3).all _ && true)) = _
    rw [show List.range 3 = [0, 1, 2] from rfl]
    simp [Bool.and_assoc]
  rw [e]
  exact h
theorem ne_trip_same {prog : Program} {w : World} {A : Around} {E : Value → Shared → Prop} {s : Shared} {a b : Addr} {x y z x' y' z' : Str} {t₁ t₂ t₃ u₁ u₂ u₃ : Tok} {Q : Value → Shared → Prop} (ha : s.heap.get? a = some (tupO x y z t₁ t₂ t₃)) (hb : s.heap.get? b = some (tupO x' y' z' u₁ u₂ u₃)) (hu : A.units < cLine)
    (ex : x = x') (ey : y = y') (ez : z = z') (h : Q (.bool false) s) : wpAny (model prog w) A (compareOp .NotEq (.ref a) (.ref b)) Q E s := by
  subst ex ey ez
  refine ne_trip ha hb hu ?_
  simpa using h
/-- a sign of a text -/
theorem item_text {prog : Program} {w : World} {A : Around} {E : Value → Shared → Prop} {s : Shared} {value slice : Expr} {x : List Nat} {k : Nat} {t u : Tok} {Q : Value → Shared → Prop} (hk : k < x.length) (hfit : x.length ≤ 1000000)
    (h : ∀ t' tk, Q (.str ⟨#[x.getD k 0]⟩ t') { s with toks := tk })
    (hs : subscripted slice false (.str ⟨x.toArray⟩ t) (.int (k : Int) u) = operate [.str ⟨x.toArray⟩ t, .int (k : Int) u] (getItem (.str ⟨x.toArray⟩ t) (.int (k : Int) u)) := by with_unfolding_all rfl)
    (ht : ∀ r, letTemporaryGo value (.str ⟨x.toArray⟩ t) r = pure () := by intro _; with_unfolding_all rfl) :
    wpAny (model prog w) A (subscriptTail value slice (.str ⟨x.toArray⟩ t) (.int (k : Int) u)) Q E s := by
  refine subscriptTail_builtin (typeIs_str _ _ _) F.slot_str_getitem.lookup ?_ hs ht
  refine P.getItem_str (c := x.getD k 0) (by simp; omega) ?_ (h _ _)
  have e : seqIndex? (k : Int) (⟨x.toArray⟩ : Str).length = some k := by
    unfold seqIndex?
    have : (⟨x.toArray⟩ : Str).length = x.length := List.size_toArray ..
    rw [this]
    simp
    omega
  rw [e]
  simp [List.getElem?_eq_getElem hk]
theorem add_lists {prog : Program} {w : World} {A : Around} {E : Value → Shared → Prop} {s : Shared} {x y : List Nat} {t u : Tok} {Q : Value → Shared → Prop} (hsz : (x ++ y).length ≤ 100000) (h : ∀ t' tk, Q (.str ⟨(x ++ y).toArray⟩ t') { s with toks := tk }) :
    wpAny (model prog w) A (binaryOp .Add (.str ⟨x.toArray⟩ t) (.str ⟨y.toArray⟩ u)) Q E s := by
  refine P.add_str ?_
  have hl : ∀ l : List Nat, (⟨l.toArray⟩ : Str).length = l.length := fun l => List.size_toArray ..
  rw [hl, hl]
  split
  · rename_i e
    have : x = [] := List.length_eq_zero_iff.mp (beq_iff_eq.mp e)
    subst this
    exact h u s.toks
  · split
    · rename_i e
      have : y = [] := List.length_eq_zero_iff.mp (beq_iff_eq.mp e)
      subst this
      have := h t s.toks
      rw [List.append_nil] at this
      exact this
    · have e : (⟨x.toArray⟩ : Str) ++ ⟨y.toArray⟩ = ⟨(x ++ y).toArray⟩ := by
        show Str.mk (x.toArray ++ y.toArray) = _
        simp
      refine ⟨?_, ?_⟩
      · rw [e, hl]
        simp only [sizeLine]
        omega
      · rw [e]
        exact h _ _
theorem ne_same {prog : Program} {w : World} {A : Around} {E : Value → Shared → Prop} {s : Shared} {x y : List Nat} {t u : Tok} {Q : Value → Shared → Prop} (e : x = y) (h : Q (.bool false) s) : wpAny (model prog w) A (compareOp .NotEq (.str ⟨x.toArray⟩ t) (.str ⟨y.toArray⟩ u)) Q E s := by
  subst e
  refine P.ne_str ?_
  simpa using h
theorem fresh_news {g h h' : Heap} {L a : Addr} {o : Obj} {m : Str → Option Value} (F : Fr g L h m) (e : h'.get? a = some o) (hf : h.get? a = none) : h'.get? (a, o).1 = some (a, o).2 ∧ (a, o).1 ≠ L ∧ g.get? (a, o).1 = none := by
  refine ⟨e, ?_, ?_⟩
  · rintro rfl
    obtain ⟨o, _, _, ho, _⟩ := F.ns
    rw [ho] at hf
    cases hf
  · cases hg : g.get? a with
    | none => rfl
    | some o' => rw [F.keep _ _ hg] at hf; cases hf
theorem named {g h : Heap} {L : Addr} {m : Str → Option Value} {P : Prop} (_ : Fr g L h m) (k : ∀ m₁, m₁ = m → P) : P := k m rfl
theorem swap2 {g h : Heap} {L : Addr} {a b : Addr × Obj} {r : List (Addr × Obj)} (N : News g L h (a :: b :: r)) : News g L h (b :: a :: r) := fun p hp => N p (by
  rcases List.mem_cons.mp hp with rfl | hp
  · exact List.mem_cons_of_mem _ (List.mem_cons_self ..)
  · rcases List.mem_cons.mp hp with rfl | hp
    · exact List.mem_cons_self ..
    · exact List.mem_cons_of_mem _ (List.mem_cons_of_mem _ hp))
theorem newsTl {g h : Heap} {L : Addr} {a : Addr × Obj} {r : List (Addr × Obj)} (N : News g L h (a :: r)) : News g L h r := fun p hp => N p (List.mem_cons_of_mem _ hp)
theorem newsHd {g h : Heap} {L : Addr} {a : Addr × Obj} {r : List (Addr × Obj)} (N : News g L h (a :: r)) : h.get? a.1 = some a.2 ∧ a.1 ≠ L ∧ g.get? a.1 = none := N _ (List.mem_cons_self ..)
theorem newsCon {g h : Heap} {L : Addr} {a : Addr × Obj} {r : List (Addr × Obj)} (x : h.get? a.1 = some a.2 ∧ a.1 ≠ L ∧ g.get? a.1 = none) (N : News g L h r) : News g L h (a :: r) := fun p hp => by
  rcases List.mem_cons.mp hp with rfl | hp
  · exact x
  · exact N p hp
theorem swap3 {g h : Heap} {L : Addr} {a b c : Addr × Obj} {r : List (Addr × Obj)} (N : News g L h (a :: b :: c :: r)) : News g L h (a :: c :: b :: r) := newsCon (newsHd N) (swap2 (newsTl N))
theorem allLt_mem {d : Nat} : ∀ {l : List (Addr × Obj)}, AllLt d l → ∀ p ∈ l, p.1 < d
  | [], _, _, h => nomatch h
  | q :: l, x, p, h => by
    rcases List.mem_cons.mp h with rfl | h
    · exact x.1
    · exact allLt_mem x.2 p h
end Mine
end

section
namespace Mine
open PySem

/-- what a seam takes off: of the ends, of the dots, of both -/
def takeF (c d : Nat) : Nat := if c = 13 ∧ d = 10 then 2 else 0
def takeD (c d : Nat) : Nat := if d = 46 ∧ c ≠ 10 then 1 else 0
def takeQ (c d : Nat) : Nat := if c = 13 ∧ d = 10 then 2 else if d = 46 ∧ c ≠ 10 ∧ c ≠ 13 then 1 else 0

theorem seamF (c d : Nat) (r : List Nat) : ∀ (l : List Nat) (b : Bool), fixS b (l ++ c :: d :: r) = fixS b (l ++ [c]) ++ (fixS false (d :: r)).drop (takeF c d)
  | [], b => by
    simp only [List.nil_append, fixS, takeF]
    by_cases h10 : c = 10
    · subst h10; cases b <;> simp
    · by_cases h13 : c = 13
      · subst h13
        by_cases hd : d = 10
        · subst hd; simp
        · simp [hd]
      · simp [h10, h13]
  | y :: l, b => by
    simp only [List.cons_append, fixS, seamF c d r l]
    split
    · split <;> simp
    · split <;> simp
theorem seamD (c d : Nat) (r : List Nat) : ∀ (l : List Nat) (b : Bool), dotS b (l ++ c :: d :: r) = dotS b (l ++ [c]) ++ (dotS true (d :: r)).drop (takeD c d)
  | [], b => by
    simp only [List.nil_append, dotS, takeD]
    by_cases hd : d = 46
    · subst hd
      by_cases h10 : c = 10
      · subst h10; simp
      · by_cases h46 : c = 46
        · subst h46; cases b <;> simp
        · simp [h10, h46]
    · by_cases h46 : c = 46
      · subst h46; cases b <;> simp [hd]
      · simp [hd, h46]
  | y :: l, b => by
    simp only [List.cons_append, dotS, seamD c d r l]
    split <;> simp
def endS : Bool → List Nat → Bool
  | b, [] => b
  | _, c :: r => endS (c == 10) r
theorem dotS_app (r : List Nat) : ∀ (l : List Nat) (b : Bool), dotS b (l ++ r) = dotS b l ++ dotS (endS b l) r
  | [], b => by simp [dotS, endS]
  | y :: l, b => by
    simp only [List.cons_append, dotS, endS]
    split
    · rename_i h
      simp only [Bool.and_eq_true, beq_iff_eq] at h
      rw [h.2, dotS_app r l]; simp
    · rw [dotS_app r l]; simp
theorem end_fix (c : Nat) : ∀ (l : List Nat) (b f : Bool), (b = true → f = true) → endS f (fixS b (l ++ [c])) = (c == 10 || c == 13)
  | [], b, f, h => by
    simp only [List.nil_append, fixS]
    by_cases h10 : c = 10
    · subst h10
      cases b with
      | true => simp [endS, h rfl]
      | false => simp [endS]
    · by_cases h13 : c = 13
      · subst h13; simp [endS]
      · simp [h10, h13, endS]
  | y :: l, b, f, h => by
    simp only [List.cons_append, fixS]
    split
    · split
      · exact end_fix c l _ _ (by simp)
      · simp only [endS]; exact end_fix c l _ _ (by simp)
    · split
      · simp only [endS]; exact end_fix c l _ _ (by simp)
      · simp only [endS]; exact end_fix c l _ _ (by simp)
theorem dot_part (c d : Nat) (r : List Nat) : dotS (c == 10 || c == 13) ((fixS false (d :: r)).drop (takeF c d)) = (dotS true (fixS false (d :: r))).drop (takeQ c d) := by
  unfold takeF takeQ
  by_cases h : c = 13 ∧ d = 10
  · rw [if_pos h, if_pos h, h.1, h.2]
    simp [fixS, dotS]
  · rw [if_neg h, if_neg h]
    by_cases h10 : c = 10
    · subst h10; simp
    · by_cases h13 : c = 13
      · subst h13; simp
      · simp only [h10, h13, ne_eq, not_false_eq_true, and_true, List.drop_zero]
        have e : (c == 10 || c == 13) = false := by simp [h10, h13]
        rw [e]
        by_cases hd : d = 46
        · subst hd; simp [fixS, dotS]
        · rw [if_neg hd, List.drop_zero]
          simp only [fixS]
          split
          · simp [dotS]
          · split
            · simp [dotS]
            · simp [dotS, hd]
theorem seamQ (c d : Nat) (r l : List Nat) : dotL (fixL (l ++ c :: d :: r)) = dotL (fixL (l ++ [c])) ++ (dotL (fixL (d :: r))).drop (takeQ c d) := by
  unfold dotL fixL
  rw [seamF, dotS_app, end_fix c l false true (by simp), dot_part]

/-- a piece of a text -/
def pc (x : List Nat) (i k : Nat) : List Nat := (x.take k).drop i
theorem pc_length (x : List Nat) {i k : Nat} (hk : k ≤ x.length) : (pc x i k).length = k - i := by simp [pc]; omega
theorem pc_cons (x : List Nat) {i k : Nat} (h : i < k) (hk : k ≤ x.length) : pc x i k = x.getD i 0 :: pc x (i + 1) k := by
  unfold pc
  rw [List.drop_eq_getElem_cons (by simp; omega)]
  simp [List.getD, List.getElem?_eq_getElem (show i < x.length by omega)]
theorem pc_self (x : List Nat) (i : Nat) : pc x i i = [] := by simp [pc]
theorem pc_one (x : List Nat) {i : Nat} (h : i < x.length) : pc x i (i + 1) = [x.getD i 0] := by rw [pc_cons x (Nat.lt_succ_self i) h, pc_self]
theorem pc_app (x : List Nat) : ∀ {i j k : Nat}, i ≤ j → j ≤ k → k ≤ x.length → pc x i k = pc x i j ++ pc x j k := by
  intro i j k hij hjk hk
  obtain ⟨n, rfl⟩ : ∃ n, j = i + n := ⟨j - i, by omega⟩
  induction n generalizing i with
  | zero => rw [show i + 0 = i from rfl, pc_self]; rfl
  | succ n ih =>
    have e : i + (n + 1) = i + 1 + n := by omega
    rw [e]
    rw [pc_cons x (i := i) (by omega) hk, pc_cons x (i := i) (k := i + 1 + n) (by omega) (by omega), ih (by omega) (by omega), List.cons_append]
theorem pc_mem {x : List Nat} {i k c : Nat} (h : c ∈ pc x i k) : c ∈ x := List.mem_of_mem_take (List.mem_of_mem_drop h)

theorem pc_seam (x : List Nat) {i j k : Nat} (hij : i < j) (hjk : j < k) (hk : k ≤ x.length) :
    fixL (pc x i k) = fixL (pc x i j) ++ (fixL (pc x j k)).drop (takeF (x.getD (j - 1) 0) (x.getD j 0)) ∧
    dotL (pc x i k) = dotL (pc x i j) ++ (dotL (pc x j k)).drop (takeD (x.getD (j - 1) 0) (x.getD j 0)) ∧
    dotL (fixL (pc x i k)) = dotL (fixL (pc x i j)) ++ (dotL (fixL (pc x j k))).drop (takeQ (x.getD (j - 1) 0) (x.getD j 0)) := by
  have e1 : pc x i j = pc x i (j - 1) ++ [x.getD (j - 1) 0] := by
    have := pc_one x (i := j - 1) (by omega)
    rw [show j - 1 + 1 = j by omega] at this
    rw [← this]
    exact pc_app x (by omega) (by omega) (by omega)
  have e2 : pc x j k = x.getD j 0 :: pc x (j + 1) k := pc_cons x hjk hk
  have e3 : pc x i k = pc x i (j - 1) ++ x.getD (j - 1) 0 :: x.getD j 0 :: pc x (j + 1) k := by
    rw [pc_app x (Nat.le_of_lt hij) (Nat.le_of_lt hjk) hk, e1, e2, List.append_assoc]; rfl
  rw [e1, e2, e3]
  exact ⟨seamF _ _ _ _ _, seamD _ _ _ _ _, seamQ _ _ _ _⟩
end Mine
end

section
open PySem PySem.W PyProof.Rows
open_top hd for PySem.Challenge.rw_sn0117_02
end

namespace Mine
open PySem PySem.W PyProof.Rows
theorem fill : (PySem.Challenge.rw_sn0117_02 = PySem.Challenge.rw_sn0117_02) ∧ hd.heap_39 = hd.heap_39 := by k_fill; exact ⟨rfl, rfl⟩
theorem at45 (w : World) : ∃ o vs n, (hd.heap_39 w.params).lookup 45 = some o ∧ o.data = .seq vs n ∧ (vs.map Builtin.Re.reRawOf).map (·.toNat) = codeEol := ⟨_, _, _, by k_is, rfl, by decide +kernel⟩
theorem at35 (w : World) : ∃ o vs n, (hd.heap_39 w.params).lookup 35 = some o ∧ o.data = .seq vs n ∧ (vs.map Builtin.Re.reRawOf).map (·.toNat) = codeDot := ⟨_, _, _, by k_is, rfl, by decide +kernel⟩
theorem at40 (w : World) : ∃ o vs n, (hd.heap_39 w.params).lookup 40 = some o ∧ o.data = .seq vs n ∧ (vs.map Builtin.Re.reRawOf).map (·.toNat) = codeDot := ⟨_, _, _, by k_is, rfl, by decide +kernel⟩
theorem at46 (w : World) : ∃ o fs, (hd.heap_39 w.params).lookup 46 = some o ∧ o.data = .fields fs ∧ fs.getD 6 .none = .int 0 0 ∧ fs.getD 2 .none = .int 0 0 ∧ fs.getD 5 .none = .ref 45 ∧ o.cls = .type "re.Pattern" ∧ o.dict = none := ⟨_, _, by k_is, rfl, rfl, rfl, rfl, rfl, rfl⟩
theorem at36 (w : World) : ∃ o fs, (hd.heap_39 w.params).lookup 36 = some o ∧ o.data = .fields fs ∧ fs.getD 6 .none = .int 0 0 ∧ fs.getD 2 .none = .int 0 0 ∧ fs.getD 5 .none = .ref 35 ∧ o.cls = .type "re.Pattern" ∧ o.dict = none := ⟨_, _, by k_is, rfl, rfl, rfl, rfl, rfl, rfl⟩
theorem at41 (w : World) : ∃ o fs, (hd.heap_39 w.params).lookup 41 = some o ∧ o.data = .fields fs ∧ fs.getD 6 .none = .int 1 0 ∧ fs.getD 2 .none = .int 0 0 ∧ fs.getD 5 .none = .ref 40 ∧ o.cls = .type "re.Pattern" ∧ o.dict = none := ⟨_, _, by k_is, rfl, rfl, rfl, rfl, rfl, rfl⟩
/-- a pattern of the text: its object, its words, its method -/
structure PatOk (s : Shared) (a : Addr) (code : Array Nat) (kind : Nat) : Prop where
  at_ : PatAt s.heap a code kind
  ty : s.TypeIs (.ref a) "re.Pattern"
  get : ∀ {M : Model} {A : Around} {E : Value → Shared → Prop} {Q : Value × List Value → Shared → Prop} {pl : Sem Bool}, Q (.builtin "re.Pattern.sub", [.ref a]) s → wpAny M A (getMethod (.ref a) (Str.ofString "sub") pl) Q E s
theorem pat3 {w : World} {s : Shared} (X : (hd.heap_39 w.params).In s.heap) : PatOk s 46 codeEol 0 := by
  obtain ⟨o, fs, h1, h2, h3, h4, h5, h6, h7⟩ := at46 w
  obtain ⟨oc, vs, n, g1, g2, g3⟩ := at45 w
  exact ⟨⟨o, fs, oc, 45, vs, n, X _ _ h1, h2, h3, h4, h5, X _ _ g1, g2, g3⟩, ⟨o, X _ _ h1, h6⟩, fun h => getSub (X _ _ h1) h6 h7 h⟩
theorem pat1 {w : World} {s : Shared} (X : (hd.heap_39 w.params).In s.heap) : PatOk s 36 codeDot 0 := by
  obtain ⟨o, fs, h1, h2, h3, h4, h5, h6, h7⟩ := at36 w
  obtain ⟨oc, vs, n, g1, g2, g3⟩ := at35 w
  exact ⟨⟨o, fs, oc, 35, vs, n, X _ _ h1, h2, h3, h4, h5, X _ _ g1, g2, g3⟩, ⟨o, X _ _ h1, h6⟩, fun h => getSub (X _ _ h1) h6 h7 h⟩
theorem pat2 {w : World} {s : Shared} (X : (hd.heap_39 w.params).In s.heap) : PatOk s 41 codeDot 1 := by
  obtain ⟨o, fs, h1, h2, h3, h4, h5, h6, h7⟩ := at41 w
  obtain ⟨oc, vs, n, g1, g2, g3⟩ := at40 w
  exact ⟨⟨o, fs, oc, 40, vs, n, X _ _ h1, h2, h3, h4, h5, X _ _ g1, g2, g3⟩, ⟨o, X _ _ h1, h6⟩, fun h => getSub (X _ _ h1) h6 h7 h⟩

section
variable {w : World} {prog : Program} {M : Model} {A : Around} {E : Value → Shared → Prop} {s : Shared} {Q : Value → Shared → Prop} {Q' : Value × List Value → Shared → Prop} {pl : Sem Bool}
theorem get3 (X : (hd.heap_39 w.params).In s.heap) (h : Q' (.builtin "re.Pattern.sub", [.ref 46]) s) : wpAny M A (getMethod (.ref 46) (Str.ofString "sub") pl) Q' E s := (pat3 X).get h
theorem get1 (X : (hd.heap_39 w.params).In s.heap) (h : Q' (.builtin "re.Pattern.sub", [.ref 36]) s) : wpAny M A (getMethod (.ref 36) (Str.ofString "sub") pl) Q' E s := (pat1 X).get h
theorem get2 (X : (hd.heap_39 w.params).In s.heap) (h : Q' (.builtin "re.Pattern.sub", [.ref 41]) s) : wpAny M A (getMethod (.ref 41) (Str.ofString "sub") pl) Q' E s := (pat2 X).get h
theorem subEol (X : (hd.heap_39 w.params).In s.heap) (x : Str) (t rt : Tok) (hts : x.cps.size ≤ 200000) 
    (hq : ∀ h' tk t', Keep s.heap h' → Q (.str ⟨(fixL x.cps.toList).toArray⟩ t') { s with heap := h', toks := tk }) :
    wpAny (model prog w) A (call (.builtin "re.Pattern.sub") [.ref 46, .str (Str.ofString "\r\n") rt, .str x t]) Q E s := by
  rw [lit_crlf]; exact sub_eol (pat3 X).at_ (pat3 X).ty x t rt hts hq
theorem subDot (X : (hd.heap_39 w.params).In s.heap) (x : Str) (t rt : Tok) (hts : x.cps.size ≤ 200000) 
    (hq : ∀ h' tk t', Keep s.heap h' → Q (.str ⟨(dotL x.cps.toList).toArray⟩ t') { s with heap := h', toks := tk }) :
    wpAny (model prog w) A (call (.builtin "re.Pattern.sub") [.ref 36, .str (Str.ofString "..") rt, .str x t]) Q E s := by
  rw [lit_dots]; exact sub_dot (pat1 X).at_ (pat1 X).ty x t rt hts hq
theorem subDotB (X : (hd.heap_39 w.params).In s.heap) (b : Array UInt8) (t rt : Tok) (hts : b.size ≤ 200000) 
    (hq : ∀ h' tk t', Keep s.heap h' → Q (.bytes (by8 (dotL (b.toList.map (·.toNat))).toArray) t') { s with heap := h', toks := tk }) :
    wpAny (model prog w) A (call (.builtin "re.Pattern.sub") [.ref 41, .bytes #[46, 46] rt, .bytes b t]) Q E s := by
  rw [show (#[46, 46] : Array UInt8) = by8 #[46, 46] by decide +kernel]; exact sub_dotB (pat2 X).at_ (pat2 X).ty b t rt hts hq
end
/-- what every def of the text leans on -/
def Base (w : World) (h : Heap) : Prop := (hd.heap_39 w.params).In h ∧ ∃ (p : Program) (loose : List Str) (mean : ExcName → Option Value) (mg mb : Str → Option Value), Top p loose mean mg mb h
theorem Base.keeps {w : World} {h h' : Heap} (B : Base w h) (k : Keep h h') : Base w h' :=
  let ⟨X, p, loose, mean, mg, mb, T⟩ := B; ⟨X.keeps k, p, loose, mean, mg, mb, T.keeps k⟩

local macro_rules | `(tactic| walk_at "mine look") => `(tactic| first | with_reducible assumption | with_unfolding_all rfl | ((try dsimp only); refine look_ne (by decide +kernel) ?_; walk_at "mine look"))
local macro_rules | `(tactic| walk_at "eval Name") => `(tactic| ((with_reducible show wpAny _ _ (eval (Expr.Name _ _) (envOf _ _ _ _ _)) _ _ _); name_kind "globalImplicit"; k_dflt (first
  | (refine' name_K ?k0 ?k1 (topRead_of ?k2) ?k3 ?_ ?k4 ?k5 ?k6; (case k0 => with_reducible assumption); (case k1 => assumption); (case k2 => assumption); (case k3 => k_is); (case k4 => exact rfl); (case k5 => exact rfl); (case k6 => decide +kernel); k_whole)
  | (refine' name_B ?k0 ?k1 (topRead_of ?k2) ?k3 ?k7 ?k8 ?_ ?k4 ?k5 ?k6; (case k0 => with_reducible assumption); (case k1 => assumption); (case k2 => assumption); (case k3 => k_is); (case k7 => boot_by_name); (case k8 => decide +kernel); (case k4 => exact rfl); (case k5 => exact rfl); (case k6 => decide +kernel); k_whole))))
local macro_rules | `(tactic| walk_at "eval Name") => `(tactic| ((with_reducible show wpAny _ _ (eval (Expr.Name _ _) (envOf _ _ _ _ _)) _ _ _); name_kind "local"; k_dflt (refine' ld ?k0 ?k1 ?_ ?k4 ?k5 ?k6; (case k0 => with_reducible assumption); (case k1 => walk_at "mine look"); (case k4 => exact rfl); (case k5 => exact rfl); (case k6 => decide +kernel))))
local macro_rules | `(tactic| walk_at "callWith") => `(tactic| first
  | ((with_reducible show wpAny _ _ (callWith _ (Value.builtin _) [] (backTo _ (starEach (_ :: _) _)) []) _ _ _); k_dflt (refine callWith_builtin1 ?_))
  | ((with_reducible show wpAny _ _ (callWith _ (Value.builtin _) _ (backTo _ (starEach (_ :: _) _)) []) _ _ _); k_dflt (refine callWith_method1 ?_))
  | ((with_reducible show wpAny _ _ (callWith _ (Value.builtin _) _ (backTo _ (starEach [] _)) []) _ _ _); k_dflt (refine callWith_method0 ?_)))
local macro_rules | `(tactic| walk_at "eval Call Attribute") => `(tactic| ((with_reducible show wpAny _ _ (eval (Expr.Call (Expr.Attribute _ _ _) _ [] _) _) _ _ _); k_dflt (refine MethodCall_ ?_)))
local macro_rules | `(tactic| walk_at "eval Call Name") => `(tactic| ((with_reducible show wpAny _ _ (eval (Expr.Call (Expr.Name _ _) _ [] _) _) _ _ _); k_dflt (refine Call_ ?_)))
local macro_rules | `(tactic| walk_at "spliced") => `(tactic| first
  | ((with_reducible show wpAny _ _ (spliced (backTo _ (starEach (_ :: _) _))) _ _ _); k_dflt (refine args_cons ?_))
  | ((with_reducible show wpAny _ _ (spliced (backTo _ (starEach [] _))) _ _ _); k_dflt (refine args_nil ?_); (try simp only [List.cons_append, List.nil_append])))
local macro_rules | `(tactic| walk_at "call builtin:re.Pattern.sub") => `(tactic| refine halt ?_)
local macro_rules | `(tactic| walk_at "call ref") => `(tactic| refine halt ?_)
local macro_rules | `(tactic| walk_at "getMethod ref") => `(tactic| refine halt ?_)
local macro_rules | `(tactic| walk_at "getMethod ref") => `(tactic| k_dflt (first | (refine' get3 ?k0 ?_; (case k0 => with_reducible assumption)) | (refine' get1 ?k0 ?_; (case k0 => with_reducible assumption)) | (refine' get2 ?k0 ?_; (case k0 => with_reducible assumption))))
local macro_rules | `(tactic| walk_at "eval ListComp") => `(tactic| refine halt ?_)
local macro_rules | `(tactic| walk_at "call builtin:str.join") => `(tactic| refine halt ?_)
local macro_rules | `(tactic| walk_at "call type:bytes") => `(tactic| refine halt ?_)
local macro_rules | `(tactic| walk_at "pyIter ref") => `(tactic| refine halt ?_)
local macro_rules | `(tactic| walk_at "exec For") => `(tactic| refine halt ?_)
local macro_rules | `(tactic| walk_at "exec For Name Name cons nil") => `(tactic| refine halt ?_)
local macro_rules | `(tactic| walk_at "exec For Name Call cons nil") => `(tactic| refine halt ?_)
local macro_rules | `(tactic| walk_at "exec For Name Name") => `(tactic| refine halt ?_)
local macro_rules | `(tactic| walk_at "exec For Name Call") => `(tactic| refine halt ?_)
local macro_rules | `(tactic| walk_at "call type:range") => `(tactic| refine halt ?_)
local macro_rules | `(tactic| walk_at "call type:enumerate") => `(tactic| refine halt ?_)
local macro_rules | `(tactic| walk_at "call builtin:list.append") => `(tactic| refine halt ?_)
local macro_rules | `(tactic| walk_at "subscriptTail") => `(tactic| refine halt ?_)
local macro_rules | `(tactic| walk_at "compareOp NotEq ref ref") => `(tactic| refine halt ?_)
local macro_rules | `(tactic| walk_at "setItem ref int") => `(tactic| refine halt ?_)
local macro_rules | `(tactic| walk_at "mine enter") => `(tactic| ((case k6 => k_is); (case k7 => k_is); (case k9 => exact BindsTo.of_eq rfl); (case kB => exact locs rfl); (case c2 => exact rfl); (case c3 => exact rfl); (case c4 => exact rfl); (case c5 => decide)))

section
variable {w : World} {A : Around} {E : Value → Shared → Prop} {s : Shared} {Q : Value → Shared → Prop}


theorem fix_spec (B : Base w s.heap) (hr : A.depth < recursionLimit) (t : Str) (tk : Tok) (hts : t.cps.size ≤ 200000)
    (hq : ∀ h' tk t', Keep s.heap h' → Q (.str ⟨(fixL t.cps.toList).toArray⟩ t') { s with heap := h', toks := tk }) :
    wpAny (model PySem.Challenge.rw_sn0117_02.row.prog w) A (call (.ref 67) [.str t tk]) Q E s := by
  obtain ⟨X, p, loose, mean, mg, mb, T⟩ := id B
  refine' enterK [(Str.ofString "data", .str t tk)] hr X ?k6 ?k7 T.nolimit ?k9 ?kB ?_ ?c2 ?c3 ?c4 ?c5
  walk_at "mine enter"
  intro h₁ kp F N X'
  k_steps
  unfold Halt
  refine' subEol ?_ _ _ _ hts ?_
  · exact X'
  intro h' k t' kp'
  exact hq _ _ _ (kp.trans kp')

theorem fix_len : ∀ (b : Bool) (l : List Nat), (fixS b l).length ≤ 2 * l.length
  | _, [] => Nat.zero_le _
  | b, c :: r => by
    unfold fixS
    have h1 := fix_len false r
    have h2 := fix_len true r
    split
    · split <;> simp <;> omega
    · split <;> simp <;> omega
theorem dot_len : ∀ (b : Bool) (l : List Nat), (dotS b l).length ≤ 2 * l.length
  | _, [] => Nat.zero_le _
  | b, c :: r => by
    unfold dotS
    have h1 := dot_len false r
    have h2 := dot_len (c == 10) r
    split <;> simp <;> omega

theorem quote_spec (B : Base w s.heap) (hr : A.depth < recursionLimit) (t : Str) (tk : Tok) (hts : t.cps.size ≤ 100000)
    (hq : ∀ h' tk t', Keep s.heap h' → Q (.str ⟨(dotL (fixL t.cps.toList)).toArray⟩ t') { s with heap := h', toks := tk }) :
    wpAny (model PySem.Challenge.rw_sn0117_02.row.prog w) A (call (.ref 53) [.str t tk]) Q E s := by
  obtain ⟨X, p, loose, mean, mg, mb, T⟩ := id B
  refine' enterK [(Str.ofString "data", .str t tk)] hr X ?k6 ?k7 T.nolimit ?k9 ?kB ?_ ?c2 ?c3 ?c4 ?c5
  walk_at "mine enter"
  intro h₁ kp F N X'
  k_steps
  unfold Halt
  refine' subEol ?_ _ _ _ (by omega) ?_
  · exact X'
  intro h' k t' kp'
  have X'' := X'.keeps kp'
  k_steps
  unfold Halt
  refine' subDot ?_ _ _ _ ?_ ?_
  · exact X''
  · have := fix_len false t.cps.toList
    simp [fixL] at this ⊢
    omega
  intro h'' k' t'' kp''
  exact hq _ _ _ ((kp.trans kp').trans kp'')

theorem period_spec (B : Base w s.heap) (hr : A.depth < recursionLimit) (b : Array UInt8) (tk : Tok) (hts : b.size ≤ 200000)
    (hq : ∀ h' tk t', Keep s.heap h' → Q (.bytes (by8 (dotL (b.toList.map (·.toNat))).toArray) t') { s with heap := h', toks := tk }) :
    wpAny (model PySem.Challenge.rw_sn0117_02.row.prog w) A (call (.ref 60) [.bytes b tk]) Q E s := by
  obtain ⟨X, p, loose, mean, mg, mb, T⟩ := id B
  refine' enterK [(Str.ofString "bindata", .bytes b tk)] hr X ?k6 ?k7 T.nolimit ?k9 ?kB ?_ ?c2 ?c3 ?c4 ?c5
  walk_at "mine enter"
  intro h₁ kp F N X'
  k_steps
  unfold Halt
  refine' subDotB ?_ _ _ _ hts ?_
  · exact X'
  intro h' k t' kp'
  exact hq _ _ _ (kp.trans kp')


theorem dot_mem : ∀ {b : Bool} {l : List Nat} {c : Nat}, c ∈ dotS b l → c ∈ l ∨ c = 46
  | _, [], _, h => by cases h
  | b, d :: r, c, h => by
    unfold dotS at h
    split at h
    · rcases List.mem_cons.mp h with h | h
      · exact .inr h
      · rcases List.mem_cons.mp h with h | h
        · exact .inr h
        · exact (dot_mem h).imp (List.mem_cons_of_mem _) id
    · rcases List.mem_cons.mp h with h | h
      · exact .inl (h ▸ List.mem_cons_self ..)
      · exact (dot_mem h).imp (List.mem_cons_of_mem _) id
theorem nat8 {l : List Nat} (h : ∀ c ∈ l, c < 256) : (by8 l.toArray).toList.map (·.toNat) = l := by
  unfold by8
  simp only [Array.toList_map, List.map_map]
  refine (List.map_congr_left fun c hc => ?_).trans (List.map_id _)
  have := h c hc
  simp only [Function.comp_apply, Nat.toUInt8, UInt8.toNat_ofNat', id]
  omega
theorem byteArr_by8 {l : List Nat} : byteArr (l.map Int.ofNat) = by8 l.toArray := by
  unfold byteArr by8
  simp [Function.comp_def]

theorem doubled_spec (B : Base w s.heap) (hh : A.handled = none) (hr : A.depth + 1 < recursionLimit) (t : Str) (tk : Tok) (hts : t.cps.size ≤ 100000) (hb : ∀ c ∈ t.cps.toList, c < 256)
    (hq : ∀ h' tk t', Keep s.heap h' → Q (.str ⟨(dotL t.cps.toList).toArray⟩ t') { s with heap := h', toks := tk }) :
    wpAny (model PySem.Challenge.rw_sn0117_02.row.prog w) A (call (.ref 72) [.str t tk]) Q E s := by
  obtain ⟨X, p, loose, mean, mg, mb, T⟩ := id B
  refine' enterK [(Str.ofString "text", .str t tk)] (by omega) X ?k6 ?k7 T.nolimit ?k9 ?kB ?_ ?c2 ?c3 ?c4 ?c5
  walk_at "mine enter"
  intro h₁ kp F N X'
  k_steps
  unfold Halt
  refine comp_ord (K := hd.heap_39 w.params) (p := p) (loose := loose) (mg := mg) (mb := mb) hh (by decide +kernel) (by decide +kernel) rfl (by decide +kernel) (by rfl) (by rfl) (by decide +kernel) (by k_is) ?_
  k_steps
  unfold Halt
  refine ⟨_, _, rfl, by simp only [sizeLine]; omega, X', (topRead_of T).keeps kp, ?_⟩
  intro D h₂ k₂ vs kp₂ hl hi
  have F₂ := F.keptAll kp₂
  have N₂ := N.grown kp₂
  clear F N
  k_steps
  unfold Halt
  refine call_bytes_ints hl hi ?_ ?_ hh ?_
  · intro n hn
    obtain ⟨c, hc, rfl⟩ := List.mem_map.mp hn
    have := hb c hc
    show (0 : Int) ≤ (c : Int) ∧ (c : Int) < 256
    omega
  · have := hi.length
    simp at this
    simp [sizeLine, this]
    omega
  intro h₃ t₃ k₃ kp₃
  have F₃ := F₂.keptAll kp₃
  have N₃ := N₂.grown kp₃
  clear F₂ N₂
  k_steps
  unfold Halt
  have e1 : (byteArr (t.cps.toList.map Int.ofNat)).toList.map (·.toNat) = t.cps.toList := by rw [byteArr_by8]; exact nat8 (l := t.cps.toList) hb
  refine period_spec ?_ hr _ _ ?_ ?_
  · exact ((B.keeps kp).keeps kp₂).keeps kp₃
  · rw [byteArr_size, List.length_map, Array.length_toList]; omega
  intro h₄ k₄ t₄ kp₄
  have F₄ := F₃.keptAll kp₄
  have N₄ := N₃.grown kp₄
  clear F₃ N₃
  rw [e1]
  k_steps
  unfold Halt
  rename_i h₅ F₅ N₅
  have B₅ : Base w h₅ := B.keeps F₅.keep
  refine comp_chr (K := hd.heap_39 w.params) (p := p) (loose := loose) (mg := mg) (mb := mb) hh (by decide +kernel) (by decide +kernel) rfl (by decide +kernel) (by rfl) (by rfl) (by decide +kernel) (by k_is) ?_
  k_steps
  unfold Halt
  have hlen : (dotL t.cps.toList).length ≤ 200000 := by
    have := dot_len true t.cps.toList
    simp [dotL] at this ⊢
    omega
  refine ⟨_, _, rfl, by simp [by8, sizeLine]; omega, X.keeps F₅.keep, (topRead_of T).keeps F₅.keep, ?_⟩
  intro D₂ h₆ k₆ l kp₆ hl₂ hm
  have F₆ := F₅.keptAll kp₆
  have N₆ := N₅.grown kp₆
  clear F₅ N₅
  k_steps
  unfold Halt
  rw [show Str.ofString "" = ⟨#[]⟩ from by decide +kernel]
  rw [nat8 (l := dotL t.cps.toList) (fun c hc => (dot_mem hc).elim (hb c) fun e => by omega)] at hm
  refine join_signs hl₂ hm (by omega) fun t' k' => ?_
  exact hq _ _ _ F₆.keep

def Tup3 (h : Heap) (v : Value) (x y z : List Nat) : Prop :=
  ∃ a t₁ t₂ t₃, v = .ref a ∧ h.get? a = some { cls := .type "tuple", data := .seq #[.str ⟨x.toArray⟩ t₁, .str ⟨y.toArray⟩ t₂, .str ⟨z.toArray⟩ t₃] }
theorem Tup3.keeps {h h' : Heap} {v : Value} {x y z : List Nat} (T : Tup3 h v x y z) (k : Keep h h') : Tup3 h' v x y z :=
  let ⟨a, t₁, t₂, t₃, e, g⟩ := T; ⟨a, t₁, t₂, t₃, e, k _ _ g⟩
theorem Tup3.of {h : Heap} {D : Addr} {x y z : Str} {a b c : List Nat} {t₁ t₂ t₃ : Tok} (e : h.get? D = some { cls := .type "tuple", data := .seq #[.str x t₁, .str y t₂, .str z t₃] })
    (ex : x = ⟨a.toArray⟩) (ey : y = ⟨b.toArray⟩) (ez : z = ⟨c.toArray⟩) : Tup3 h (.ref D) a b c := by subst ex ey ez; exact ⟨_, _, _, _, rfl, e⟩
theorem lit_cr : Str.ofString "\r" = ⟨#[13]⟩ := by decide +kernel
theorem lit_lf : Str.ofString "\n" = ⟨#[10]⟩ := by decide +kernel
theorem lit_dot : Str.ofString "." = ⟨#[46]⟩ := by decide +kernel
theorem lit_nil : Str.ofString "" = ⟨#[]⟩ := by decide +kernel
theorem eqS (c d : Nat) : ((⟨#[c]⟩ : Str) == ⟨#[d]⟩) = (c == d) := by
  cases h : (c == d) with
  | true => rw [beq_iff_eq.mp h]; simp
  | false =>
    rw [beq_eq_false_iff_ne] at h ⊢
    intro e
    apply h
    injection e with e
    simpa using e

theorem single_spec (B : Base w s.heap) (hr : A.depth < recursionLimit) (c : Nat) (tk : Tok)
    (hq : ∀ h' tk v, Keep s.heap h' → Tup3 h' v (fixL [c]) (dotL [c]) (dotL (fixL [c])) → Q v { s with heap := h', toks := tk }) :
    wpAny (model PySem.Challenge.rw_sn0117_02.row.prog w) A (call (.ref 79) [.str ⟨#[c]⟩ tk]) Q E s := by
  obtain ⟨X, p, loose, mean, mg, mb, T⟩ := id B
  refine' enterK [(Str.ofString "sign", .str ⟨#[c]⟩ tk)] (by omega) X ?k6 ?k7 T.nolimit ?k9 ?kB ?_ ?c2 ?c3 ?c4 ?c5
  walk_at "mine enter"
  intro h₁ kp F N X'
  k_steps
  all_goals
    (with_reducible rename Fr _ _ _ _ => F')
    (with_reducible rename News _ _ _ _ => N')
    refine hq _ _ _ F'.keep (Tup3.of ((N' _ (List.mem_singleton.mpr rfl)).1) ?_ ?_ ?_)
    all_goals clear F' N' hq B X T X' kp
    all_goals
      simp only [lit_cr, lit_lf, lit_dot, lit_crlf, lit_dots, eqS, beq_iff_eq] at *
      first
        | (subst_vars; rfl)
        | simp_all [fixL, fixS, dotL, dotS]

theorem tupI_of {h : Heap} {D : Addr} {x y z a b c : Int} {t₁ t₂ t₃ : Tok} (e : h.get? D = some { cls := .type "tuple", data := .seq #[.int x t₁, .int y t₂, .int z t₃] })
    (ex : x = a) (ey : y = b) (ez : z = c) : h.get? D = some (tupI a b c t₁ t₂ t₃) := by subst ex ey ez; exact e
theorem seam_spec (B : Base w s.heap) (hr : A.depth < recursionLimit) (c d : Nat) (tk tk₂ : Tok)
    (hq : ∀ h' tk a t₁ t₂ t₃, Keep s.heap h' → h'.get? a = some (tupI (takeF c d) (takeD c d) (takeQ c d) t₁ t₂ t₃) → s.heap.get? a = none → Q (.ref a) { s with heap := h', toks := tk }) :
    wpAny (model PySem.Challenge.rw_sn0117_02.row.prog w) A (call (.ref 86) [.str ⟨#[c]⟩ tk, .str ⟨#[d]⟩ tk₂]) Q E s := by
  obtain ⟨X, p, loose, mean, mg, mb, T⟩ := id B
  refine' enterK [(Str.ofString "left", .str ⟨#[c]⟩ tk), (Str.ofString "right", .str ⟨#[d]⟩ tk₂)] (by omega) X ?k6 ?k7 T.nolimit ?k9 ?kB ?_ ?c2 ?c3 ?c4 ?c5
  walk_at "mine enter"
  intro h₁ kp F N X'
  k_steps
  all_goals
    (with_reducible rename Fr _ _ _ _ => F')
    (with_reducible rename News _ _ _ _ => N')
    refine hq _ _ _ _ _ _ F'.keep (tupI_of ((N' _ (List.mem_singleton.mpr rfl)).1) ?_ ?_ ?_) (N' _ (List.mem_singleton.mpr rfl)).2.2
    all_goals clear F' N' hq B X T X' kp
    all_goals
      simp only [lit_cr, lit_lf, lit_dot, lit_crlf, lit_dots, eqS, beq_iff_eq, bne, Bool.not_eq_true', Bool.not_eq_false'] at *
      first
        | (subst_vars; rfl)
        | simp_all [takeF, takeD, takeQ]

def TextJ (i : Nat) (_ : Heap) (m : Str → Option Value) (mu : List (Addr × Obj)) : Prop :=
  ∃ sa vs n ns, m (Str.ofString "signs") = some (.ref sa) ∧ mu = [(sa, listOf vs n)] ∧ IntsAre vs.toList ns ∧ ns.length = min i 7

theorem text_spec (B : Base w s.heap) (hh : A.handled = none) (hr : A.depth < recursionLimit) (l : Addr) (vs : Array Value) (ns : List Int) (hl : s.heap.IsList l vs) (hi : IntsAre vs.toList ns) (hn : ns.length ≤ 63)
    (hq : ∀ h' tk t (x : List Nat), Keep s.heap h' → x.length ≤ 7 → (∀ c ∈ x, c < 256) → Q (.str ⟨x.toArray⟩ t) { s with heap := h', toks := tk }) :
    wpAny (model PySem.Challenge.rw_sn0117_02.row.prog w) A (call (.ref 91) [.ref l]) Q E s := by
  obtain ⟨X, p, loose, mean, mg, mb, T⟩ := id B
  refine' enterK [(Str.ofString "script", .ref l)] (by omega) X ?k6 ?k7 T.nolimit ?k9 ?kB ?_ ?c2 ?c3 ?c4 ?c5
  walk_at "mine enter"
  intro h₁ kp F N X'
  k_steps
  unfold Halt
  (with_reducible rename Fr _ _ _ _ => F₂)
  (with_reducible rename News _ _ _ _ => N₂)
  refine for_enum hh rfl rfl rfl TextJ ?_
  k_steps
  unfold Halt
  refine call_enumerate_list (hl.at fun o e => F₂.keep l o e) ?_
  intro h₃ he hit hsz kp₃
  have hLs := F₂.ns.lt
  have F₃ := F₂.keptAll kp₃
  have N₃ := N₂.grown kp₃
  refine ⟨_, _, l, vs, s.heap, _, _, rfl, he, hit, Nat.succ_ne_self _, hl, ?_, ?_, ?_, ?_, ?_, F₃, N₃, ⟨_, #[], 0, [], rfl, rfl, .nil, rfl⟩, ?_, ?_⟩
  · exact Heap.get?_none_of_le (Nat.le_trans F₂.above (Nat.le_of_lt (Nat.lt_succ_of_lt hLs)))
  · exact Heap.get?_none_of_le (Nat.le_trans F₂.above (Nat.le_of_lt hLs))
  · exact (Nat.ne_of_lt (Nat.lt_succ_of_lt hLs)).symm
  · exact (Nat.ne_of_lt hLs).symm
  · intro q hq
    have := Heap.lt_size (N₂ q hq).1
    exact ⟨Nat.ne_of_lt (Nat.lt_succ_of_lt this), Nat.ne_of_lt this⟩
  · clear F₂ N₂ F₃ N₃
    rintro i t v g₁ m₁ news₁ h₄ k₄ own wr hv ⟨sa, vs', n, ns', hm, rfl, hi', hlen⟩ kg hnw hown hsub F₄ N₄
    have X₁ := X.keeps kg
    have T₁ := T.keeps kg
    have hsz' : vs'.size = ns'.length := by rw [← Array.length_toList]; exact hi'.length
    simp only [List.cons_append, List.nil_append] at N₄
    have hne := off_own hsub hnw (List.mem_singleton.mpr rfl)
    have hsa : h₄.get? sa = some (listOf vs' n) := (N₄ _ (List.mem_cons_self ..)).1
    obtain ⟨k, u, rfl⟩ := ints_item hi hv
    k_steps
    · unfold Halt
      refine method_append hsa ?_
      k_steps
      unfold Halt
      refine append_hd F₄ N₄ hne (by rw [hsz', hlen]; simp [sizeLine]; omega) ?_
      intro h₅ F₅ N₅
      clear F₄ N₄ hsa
      k_steps
      refine Turn.next (Keep.refl _) F₅ N₅ (fun p hp => by rw [List.mem_singleton.mp hp]; exact (hnw (sa, listOf vs' n) (List.mem_singleton.mpr rfl) : sa ∉ wr)) ⟨sa, vs'.push (.int k u), n + 1, ns' ++ [k], ?_, rfl, ?_, ?_⟩
      · exact look_ne (by decide +kernel) (look_ne (by decide +kernel) hm)
      · rw [Array.toList_push]; exact ints_snoc hi' k u
      · rw [List.length_append, List.length_singleton, hlen]; omega
    · unfold Halt
      (with_reducible rename Fr _ _ _ _ => F₅)
      (with_reducible rename News _ _ _ _ => N₅)
      have h7 : ns'.length = 7 := by omega
      have hlo : (0 : Int) ≤ Int.fmod i 7 := by rw [Int.fmod_eq_emod_of_nonneg _ (by omega)]; exact Int.emod_nonneg _ (by omega)
      have hhi : Int.fmod i 7 < 7 := by rw [Int.fmod_eq_emod_of_nonneg _ (by omega)]; exact Int.emod_lt_of_pos _ (by omega)
      refine set_hd F₅ N₅ hne hlo (by omega) (by omega) ?_
      intro h₅ F₅ N₅
      clear hsa
      generalize (ns'.getD (Int.fmod i 7).toNat 0 + k) = z, (Int.fmod i 7).toNat = j at F₅ N₅ ⊢
      k_steps
      refine Turn.next (Keep.refl _) F₅ N₅ (fun p hp => by rw [List.mem_singleton.mp hp]; exact (hnw (sa, listOf vs' n) (List.mem_singleton.mpr rfl) : sa ∉ wr)) ⟨sa, _, n, _, ?_, rfl, ints_set hi' _ _ _, ?_⟩
      · exact look_ne (by decide +kernel) (look_ne (by decide +kernel) hm)
      · rw [List.length_set, hlen]; omega
  · clear F₂ N₂ F₃ N₃
    rintro g' h₄ tk m' news' kg F₄ N₄ ⟨sa, vs', n, ns', hm, rfl, hi', hlen⟩
    have X₁ := X.keeps kg
    have T₁ := T.keeps kg
    have hsa : h₄.get? sa = some (listOf vs' n) := (N₄ _ (List.mem_cons_self ..)).1
    have hsz' : vs'.size = ns'.length := by rw [← Array.length_toList]; exact hi'.length
    k_steps
    unfold Halt
    refine comp_menu (d := 6) hh (by decide +kernel) (by decide +kernel) rfl (by decide +kernel) (by rfl) (by decide +kernel) (by omega) (by decide +kernel) (by omega) ?_
    k_steps
    unfold Halt
    refine ⟨sa, vs', ns', rfl, isList_of hsa, hi', by rw [hsz', hlen]; simp [sizeLine]; omega, ?_⟩
    intro D₂ h₆ k₆ l cs kp₆ hl₂ hmap hcl hcm
    have F₆ := F₄.keptAll kp₆
    have N₆ := N₄.grown kp₆
    clear F₄ N₄ hsa
    k_steps
    unfold Halt
    rw [show Str.ofString "" = ⟨#[]⟩ from by decide +kernel]
    refine join_signs hl₂ hmap (by omega) fun t' k' => ?_
    k_steps
    refine hq _ _ _ cs (fun a o e => F₆.keep _ _ (kg _ _ e)) (by omega) fun c hc => ?_
    have h := hcm c hc
    revert h
    have : ∀ c ∈ ("\u000d\n.a\u0085\\" : Str).cps.toList, c < 256 := by decide +kernel
    exact this c

def Trip (fz : List (Addr × Obj)) (u : Value) (p : List Nat) : Prop := ∃ a t₁ t₂ t₃, u = .ref a ∧ (a, tupO ⟨(fixL p).toArray⟩ ⟨(dotL p).toArray⟩ ⟨(dotL (fixL p)).toArray⟩ t₁ t₂ t₃) ∈ fz
def Entries (x : List Nat) (fz : List (Addr × Obj)) (i cnt : Nat) (rs : Array Value) : Prop := rs.size = cnt ∧ ∀ j, j < cnt → ∃ u, rs[j]? = some u ∧ Trip fz u (pc x i (i + j))
def RowAt (x : List Nat) (fz : List (Addr × Obj)) (i : Nat) (v : Value) : Prop := ∃ a rs c, v = .ref a ∧ (a, listOf rs c) ∈ fz ∧ Entries x fz i (x.length + 1 - i) rs
def RowsAre (x : List Nat) (fz : List (Addr × Obj)) (cnt : Nat) (vs : Array Value) : Prop := vs.size = cnt ∧ ∀ i, i < cnt → ∃ u, vs[i]? = some u ∧ RowAt x fz i u

theorem Trip.mono {fz fz' : List (Addr × Obj)} {u : Value} {p : List Nat} (T : Trip fz u p) (k : ∀ q ∈ fz, q ∈ fz') : Trip fz' u p := let ⟨a, t₁, t₂, t₃, e, h⟩ := T; ⟨a, t₁, t₂, t₃, e, k _ h⟩
theorem Entries.mono {x : List Nat} {fz fz' : List (Addr × Obj)} {i cnt : Nat} {rs : Array Value} (T : Entries x fz i cnt rs) (k : ∀ q ∈ fz, q ∈ fz') : Entries x fz' i cnt rs :=
  ⟨T.1, fun j hj => let ⟨u, e, h⟩ := T.2 j hj; ⟨u, e, h.mono k⟩⟩
theorem RowAt.mono {x : List Nat} {fz fz' : List (Addr × Obj)} {i : Nat} {v : Value} (T : RowAt x fz i v) (k : ∀ q ∈ fz, q ∈ fz') : RowAt x fz' i v :=
  let ⟨a, rs, c, e, h, z⟩ := T; ⟨a, rs, c, e, k _ h, z.mono k⟩
theorem RowsAre.mono {x : List Nat} {fz fz' : List (Addr × Obj)} {cnt : Nat} {vs : Array Value} (T : RowsAre x fz cnt vs) (k : ∀ q ∈ fz, q ∈ fz') : RowsAre x fz' cnt vs :=
  ⟨T.1, fun j hj => let ⟨u, e, h⟩ := T.2 j hj; ⟨u, e, h.mono k⟩⟩
theorem Entries.push {x : List Nat} {fz : List (Addr × Obj)} {i cnt : Nat} {rs : Array Value} {u : Value} (T : Entries x fz i cnt rs) (h : Trip fz u (pc x i (i + cnt))) : Entries x fz i (cnt + 1) (rs.push u) := by
  refine ⟨by rw [Array.size_push, T.1], fun j hj => ?_⟩
  by_cases e : j = cnt
  · subst e; exact ⟨u, by rw [← T.1]; simp, h⟩
  · obtain ⟨v, h1, h2⟩ := T.2 j (by omega)
    refine ⟨v, ?_, h2⟩
    have : j < rs.size := by rw [T.1]; omega
    rw [Array.getElem?_push_lt this, ← h1]; simp [this]
theorem RowsAre.push {x : List Nat} {fz : List (Addr × Obj)} {cnt : Nat} {rs : Array Value} {u : Value} (T : RowsAre x fz cnt rs) (h : RowAt x fz cnt u) : RowsAre x fz (cnt + 1) (rs.push u) := by
  refine ⟨by rw [Array.size_push, T.1], fun j hj => ?_⟩
  by_cases e : j = cnt
  · subst e; exact ⟨u, by rw [← T.1]; simp, h⟩
  · obtain ⟨v, h1, h2⟩ := T.2 j (by omega)
    refine ⟨v, ?_, h2⟩
    have : j < rs.size := by rw [T.1]; omega
    rw [Array.getElem?_push_lt this, ← h1]; simp [this]

/-- the first loop's hold -/
def J1 (x : List Nat) (t : Tok) (i : Nat) (_ : Heap) (m : Str → Option Value) (mu : List (Addr × Obj)) : Prop :=
  ∃ wa vs c fz, m (Str.ofString "text") = some (.str ⟨x.toArray⟩ t) ∧ (∃ t', m (Str.ofString "size") = some (.int (x.length : Int) t')) ∧ m (Str.ofString "written") = some (.ref wa) ∧
    mu = (wa, listOf vs c) :: fz ∧ (∀ p ∈ fz, p.1 ≠ wa) ∧ RowsAre x fz i vs
/-- the loop within -/
def J2 (x : List Nat) (t ti : Tok) (i : Nat) (wa : Addr) (vs : Array Value) (cw : Nat) (ow : List (Addr × Obj)) (j : Nat) (_ : Heap) (m : Str → Option Value) (mu : List (Addr × Obj)) : Prop :=
  ∃ ra rs c fz, m (Str.ofString "text") = some (.str ⟨x.toArray⟩ t) ∧ (∃ t', m (Str.ofString "size") = some (.int (x.length : Int) t')) ∧ m (Str.ofString "written") = some (.ref wa) ∧ m (Str.ofString "i") = some (.int (i : Int) ti) ∧ m (Str.ofString "row") = some (.ref ra) ∧
    mu = (ra, listOf rs c) :: (wa, listOf vs cw) :: (fz ++ ow) ∧ ra ≠ wa ∧ (∀ p ∈ fz, p.1 ≠ wa ∧ p.1 ≠ ra) ∧ (∀ p ∈ ow, p.1 ≠ wa ∧ p.1 ≠ ra) ∧ (∀ p ∈ fz, ∀ q ∈ ow, q.1 ≠ p.1) ∧ Entries x fz i j rs ∧ RowsAre x fz i vs


theorem fix_mem : ∀ {b : Bool} {l : List Nat} {c : Nat}, c ∈ fixS b l → c ∈ l ∨ c = 13 ∨ c = 10
  | _, [], _, h => nomatch h
  | b, y :: l, c, h => by
    simp only [fixS] at h
    have ih := fun b => @fix_mem b l c
    split at h
    · split at h
      · rcases ih _ h with h | h
        · exact .inl (List.mem_cons_of_mem _ h)
        · exact .inr h
      · rcases List.mem_cons.mp h with h | h
        · exact .inr (.inl h)
        · rcases List.mem_cons.mp h with h | h
          · exact .inr (.inr h)
          · rcases ih _ h with h | h
            · exact .inl (List.mem_cons_of_mem _ h)
            · exact .inr h
    · split at h
      · rcases List.mem_cons.mp h with h | h
        · exact .inr (.inl h)
        · rcases List.mem_cons.mp h with h | h
          · exact .inr (.inr h)
          · rcases ih _ h with h | h
            · exact .inl (List.mem_cons_of_mem _ h)
            · exact .inr h
      · rcases List.mem_cons.mp h with h | h
        · exact .inl (h ▸ List.mem_cons_self ..)
        · rcases ih _ h with h | h
          · exact .inl (List.mem_cons_of_mem _ h)
          · exact .inr h
theorem slice_pc (x : List Nat) {i j : Nat} (h : i + j ≤ x.length) : Txt.slice ⟨x.toArray⟩ (some (i : Int)) (some ((i : Int) + (j : Int))) = ⟨(pc x i (i + j)).toArray⟩ := by
  rw [beq_iff_eq.mp (slice_closes (x := ⟨x.toArray⟩) (i := (i : Int)) (j := (i : Int) + (j : Int)) ⟨by omega, by omega, by simp; omega⟩)]
  unfold pc
  rw [List.drop_take, show ((i : Int) + (j : Int) - (i : Int)).toNat = i + j - i by omega, show ((i : Int)).toNat = i by omega]

theorem turn2 {body : List Stmt} {scope : Scope} (hF : FnAt (hd.heap_39 w.params) 98 body scope) (hh : A.handled = none) (hr : A.depth + 3 < recursionLimit) {L fa : Addr} {ccd : Value} {g h : Heap} {m : Str → Option Value} {mu own : List (Addr × Obj)} {wr : List Addr} {s₁ : Shared}
    {Q : Flow → Shared → Prop} (Bg : Base w g) (x : List Nat) (hx7 : x.length ≤ 7) (hx256 : ∀ c ∈ x, c < 256) {t ti tk : Tok} {i j : Nat} {wa : Addr} {vs : Array Value} {cw : Nat} {ow : List (Addr × Obj)}
    (hi : i ≤ x.length) (hj : j < x.length + 1 - i) (hJ : J2 x t ti i wa vs cw ow j g m mu) (hnw : ∀ p ∈ mu, p.1 ∉ wr) (hsub : ∀ p ∈ own, p.1 ∈ wr) (hown : ∀ q ∈ wr, ∃ o, (q, o) ∈ own)
    (Fz : Fr g L h (fun y => if y = Str.ofString "k" then some (.int ((i : Int) + (j : Int)) tk) else m y)) (N : News g L h (mu ++ own)) (tks : Nat) :
    wpAny (model PySem.Challenge.rw_sn0117_02.row.prog w) A (execs (forBody (nth (forBody (nth body 3)) 1)) (envOf (Str.ofString "law") scope L fa ccd)) (Turn L own wr (J2 x t ti i wa vs cw ow (j + 1)) { s₁ with heap := h, toks := tks } Q g) (fun _ _ => False) { s₁ with heap := h, toks := tks } := by
  have hF' : FnAt (hd.heap_39 w.params) 98 _ _ := ⟨_, _, _, _, by k_is, rfl, rfl⟩
  obtain ⟨rfl, rfl⟩ := FnAt.inj hF hF'
  clear hF hF'
  dsimp only [nth, forBody]
  obtain ⟨ra, rs, c, fz, mt, ⟨t', ms⟩, mw, mi, mr, rfl, hrw, hfz, how, hfo, hE, hR⟩ := hJ
  obtain ⟨X, p, loose, mean, mg, mb, T⟩ := id Bg
  simp only [List.cons_append] at N
  k_steps
  unfold Halt
  have hij : i + j ≤ x.length := by omega
  have hpl : (pc x i (i + j)).length ≤ 7 := by rw [pc_length x hij]; omega
  have hp2 : ∀ c ∈ pc x i (i + j), c < 256 := fun c hc => hx256 c (pc_mem hc)
  (with_reducible rename Fr _ _ _ _ => F₂)
  (with_reducible rename News _ _ _ _ => N₂)
  rw [slice_pc x hij] at F₂ ⊢
  generalize hP : pc x i (i + j) = P at F₂ hpl hp2 ⊢
  refine fix_spec (Bg.keeps F₂.keep) (by omega) _ _ (by simp; omega) ?_
  intro h₃ tk₃ t₃ kp₃
  have F₃ := F₂.keptAll kp₃
  have N₃ := N₂.grown kp₃
  clear F₂ N₂
  k_steps
  unfold Halt
  (with_reducible rename Fr _ _ _ _ => F₂)
  (with_reducible rename News _ _ _ _ => N₂)
  refine quote_spec (Bg.keeps F₂.keep) (by omega) _ _ (by simp; omega) ?_
  intro h₄ tk₄ t₄ kp₄
  have F₄ := F₂.keptAll kp₄
  have N₄ := N₂.grown kp₄
  clear F₂ N₂
  k_steps
  unfold Halt
  (with_reducible rename Fr _ _ _ _ => F₂)
  (with_reducible rename News _ _ _ _ => N₂)
  have hf2 := fix_len false P
  have hf3 : (fixL P).length ≤ 14 := by unfold fixL; omega
  refine doubled_spec (Bg.keeps F₂.keep) hh (by omega) _ _ (by simp; omega) (fun c hc => ?_) ?_
  · rcases fix_mem (show c ∈ fixS false P from hc) with h | h | h
    · exact hp2 c h
    · omega
    · omega
  intro h₅ tk₅ t₅ kp₅
  have F₅ := F₂.keptAll kp₅
  have N₅ := N₂.grown kp₅
  clear F₂ N₂
  k_steps
  · rename_i ha
    exfalso
    simp at ha
  unfold Halt
  refine method_append (N₅ _ (List.mem_cons_self ..)).1 ?_
  k_steps
  unfold Halt
  (with_reducible rename Fr _ _ _ _ => F₂)
  (with_reducible rename News _ _ _ _ => N₂)
  refine doubled_spec (Bg.keeps F₂.keep) hh (by omega) _ _ (by simp; omega) (fun c hc => hp2 c (by simpa using hc)) ?_
  intro h₆ tk₆ t₆ kp₆
  have F₆ := F₂.keptAll kp₆
  have N₆ := N₂.grown kp₆
  clear F₂ N₂
  k_steps
  unfold Halt
  (with_reducible rename Fr _ _ _ _ => F₂)
  (with_reducible rename News _ _ _ _ => N₂)
  (with_reducible rename _ ∧ _ => hlt)
  (with_reducible rename Addr => D)
  rw [← hP] at N₂
  refine append_hd F₂ (swap2 N₂) ?_ ?_ ?_
  · intro p hp
    rcases List.mem_cons.mp hp with rfl | hp
    · exact Nat.ne_of_gt hlt.1
    · rcases List.mem_cons.mp hp with rfl | hp
      · exact Ne.symm hrw
      · rcases List.mem_append.mp hp with hp | hp
        · rcases List.mem_append.mp hp with hp | hp
          · exact (hfz p hp).2
          · exact (how p hp).2
        · intro e
          exact hnw _ (List.mem_cons_self ..) (e ▸ hsub p hp)
  · rw [hE.1]; simp [sizeLine]; omega
  intro h₇ F₇ N₇
  clear F₂ N₂
  k_steps
  have hDw : D ∉ wr := fun hD => by
    obtain ⟨o, ho⟩ := hown D hD
    have := allLt_mem hlt.2.2 _ (List.mem_append_right _ ho)
    exact absurd this (Nat.lt_irrefl _)
  refine Turn.next (news' := (ra, _) :: (wa, listOf vs cw) :: (((D, _) :: fz) ++ ow)) (Keep.refl _) F₇ (swap3 N₇) ?_ ?_
  · intro p hp
    rcases List.mem_cons.mp hp with rfl | hp
    · exact (hnw (ra, listOf rs c) (List.mem_cons_self ..) : ra ∉ wr)
    · rcases List.mem_cons.mp hp with rfl | hp
      · exact hnw _ (List.mem_cons_of_mem _ (List.mem_cons_self ..))
      · rcases List.mem_cons.mp hp with rfl | hp
        · exact hDw
        · exact hnw _ (List.mem_cons_of_mem _ (List.mem_cons_of_mem _ hp))
  · refine ⟨ra, _, _, (D, _) :: fz, ?_, ⟨t', ?_⟩, ?_, ?_, ?_, rfl, hrw, ?_, how, ?_, (hE.mono fun q hq => List.mem_cons_of_mem _ hq).push ?_, hR.mono fun q hq => List.mem_cons_of_mem _ hq⟩
    · walk_at "mine look"
    · walk_at "mine look"
    · walk_at "mine look"
    · walk_at "mine look"
    · walk_at "mine look"
    · intro p hp
      rcases List.mem_cons.mp hp with rfl | hp
      · exact ⟨Nat.ne_of_gt hlt.2.1, Nat.ne_of_gt hlt.1⟩
      · exact hfz p hp
    · intro p hp q hq
      rcases List.mem_cons.mp hp with rfl | hp
      · exact Nat.ne_of_lt (allLt_mem hlt.2.2 _ (List.mem_append_left _ (List.mem_append_right _ hq)))
      · exact hfo p hp q hq
    · exact ⟨D, _, _, _, rfl, List.mem_cons_self ..⟩

theorem turn1 {body : List Stmt} {scope : Scope} (hF : FnAt (hd.heap_39 w.params) 98 body scope) (hh : A.handled = none) (hr : A.depth + 3 < recursionLimit) (hu : A.units + 20 < cLine) {L fa : Addr} {ccd : Value} {g h : Heap} {m : Str → Option Value} {mu own : List (Addr × Obj)} {wr : List Addr} {s₁ : Shared}
    {Q : Flow → Shared → Prop} (Bg : Base w g) (x : List Nat) (hx7 : x.length ≤ 7) (hx256 : ∀ c ∈ x, c < 256) {t ti : Tok} {i : Nat}
    (hi : i ≤ x.length) (hJ : J1 x t i g m mu) (hnw : ∀ p ∈ mu, p.1 ∉ wr) (hsub : ∀ p ∈ own, p.1 ∈ wr) (hown : ∀ q ∈ wr, ∃ o, (q, o) ∈ own)
    (Fz : Fr g L h (fun y => if y = Str.ofString "i" then some (.int (i : Int) ti) else m y)) (N : News g L h (mu ++ own)) (tks : Nat) :
    wpAny (model PySem.Challenge.rw_sn0117_02.row.prog w) A (execs (forBody (nth body 3)) (envOf (Str.ofString "law") scope L fa ccd)) (Turn L own wr (J1 x t (i + 1)) { s₁ with heap := h, toks := tks } Q g) (fun _ _ => False) { s₁ with heap := h, toks := tks } := by
  have hF' : FnAt (hd.heap_39 w.params) 98 _ _ := ⟨_, _, _, _, by k_is, rfl, rfl⟩
  obtain ⟨rfl, rfl⟩ := FnAt.inj hF hF'
  clear hF
  dsimp only [nth, forBody]
  obtain ⟨wa, vs, cw, fz, mt, ⟨t', ms⟩, mw, rfl, hfz, hR⟩ := hJ
  obtain ⟨X, p, loose, mean, mg, mb, T⟩ := id Bg
  simp only [List.cons_append] at N
  k_steps
  unfold Halt
  (with_reducible rename Fr _ _ _ _ => F₂)
  (with_reducible rename News _ _ _ _ => N₂)
  (with_reducible rename _ ∧ _ => hlt)
  have hwa : wa ∉ wr := hnw (wa, listOf vs cw) (List.mem_cons_self ..)
  refine for_range hh rfl rfl (J2 x t ti i wa vs cw own) ?_
  k_steps
  unfold Halt
  refine range2 fun h₃ r tk₃ kp₃ hr₃ => ?_
  have F₃ := F₂.keptAll kp₃
  have N₃ := N₂.grown kp₃
  clear F₂ N₂
  have hbn : ((x.length : Int) + 1 - (i : Int)).toNat = x.length + 1 - i := by omega
  refine ⟨r, (i : Int), (x.length : Int) + 1, g, _, _, rfl, hr₃, by omega, by omega, by omega, by omega, F₃, N₃, ?_, ?_, ?_⟩
  · refine ⟨_, #[], 0, fz, ?_, ⟨t', ?_⟩, ?_, ?_, ?_, rfl, Nat.ne_of_gt hlt.1, ?_, ?_, ?_, ⟨rfl, fun j hj => absurd hj (Nat.not_lt_zero _)⟩, hR⟩
    · walk_at "mine look"
    · walk_at "mine look"
    · walk_at "mine look"
    · walk_at "mine look"
    · walk_at "mine look"
    · exact fun p hp => ⟨hfz p hp, Nat.ne_of_lt (allLt_mem hlt.2 p (List.mem_append_left _ hp))⟩
    · exact fun p hp => ⟨fun e => hwa (e ▸ hsub p hp), Nat.ne_of_lt (allLt_mem hlt.2 p (List.mem_append_right _ hp))⟩
    · exact fun p hp q hq e => hnw p (List.mem_cons_of_mem _ hp) (e ▸ hsub q hq)
  · intro j tk g₁ m₁ news₁ h₄ tk₄ own₁ wr₁ hj hJ kg hnw₁ hown₁ hsub₁ F₄ N₄
    exact turn2 hF' hh hr (Bg.keeps kg) x hx7 hx256 hi (by omega) hJ hnw₁ hsub₁ hown₁ F₄ N₄ _
  · clear F₃ N₃ hF'
    rintro g' h₄ tk₄ m₄ news₄ kg F₄ N₄ ⟨ra, rs, c, fz₂, mt, ⟨t', ms⟩, mw, mi, mr, rfl, hrw, hfz₂, how, hfo, hE, hR⟩
    have X := X.keeps kg
    have T := T.keeps kg
    have Bg := Bg.keeps kg
    rw [hbn] at hE
    have hraw : ra ∉ wr := fun hm => by
      obtain ⟨o, ho⟩ := hown ra hm
      exact (how _ ho).2 rfl
    have fin : ∀ h' tk, Fr g' L h' m₄ → News g' L h' ((wa, listOf (vs.push (.ref ra)) (cw + 1)) :: (ra, listOf rs c) :: (fz₂ ++ own)) →
        Turn L own wr (J1 x t (i + 1)) { s₁ with heap := h, toks := tks } Q g .next { s₁ with heap := h', toks := tk } := by
      intro h' tk F N
      refine Turn.next (news' := (wa, _) :: ((ra, _) :: fz₂)) kg F N ?_ ?_
      · intro p hp
        rcases List.mem_cons.mp hp with rfl | hp
        · exact hwa
        · rcases List.mem_cons.mp hp with rfl | hp
          · exact hraw
          · intro hw
            obtain ⟨o, ho⟩ := hown _ hw
            exact hfo p hp _ ho rfl
      · refine ⟨wa, _, _, (ra, _) :: fz₂, mt, ⟨t', ms⟩, mw, rfl, ?_, (hR.mono fun q hq => List.mem_cons_of_mem _ hq).push ⟨ra, rs, c, rfl, List.mem_cons_self .., hE.mono fun q hq => List.mem_cons_of_mem _ hq⟩⟩
        intro p hp
        rcases List.mem_cons.mp hp with rfl | hp
        · exact hrw
        · exact (hfz₂ p hp).1
    k_steps
    unfold Halt
    refine method_append (newsHd (swap2 N₄)).1 ?_
    k_steps
    unfold Halt
    refine append_hd F₄ (swap2 N₄) ?_ ?_ ?_
    · intro p hp
      rcases List.mem_cons.mp hp with rfl | hp
      · exact hrw
      · rcases List.mem_append.mp hp with hp | hp
        · exact (hfz₂ p hp).1
        · exact (how p hp).1
    · rw [hR.1]; simp [sizeLine]; omega
    intro h₅ F₅ N₅
    clear F₄ N₄
    k_steps
    unfold Halt
    obtain ⟨u, hu0, a0, t1, t2, t3, rfl, hm0⟩ := hE.2 0 (by omega)
    have hra : h₅.IsList ra rs := isList_of (newsHd (newsTl N₅)).1
    refine item_list hra (by omega) (by omega) hu0 ?_
    k_steps
    unfold Halt
    (with_reducible rename Fr _ _ _ _ => F₆)
    (with_reducible rename News _ _ _ _ => N₆)
    rw [show pc x i (i + 0) = [] from pc_self x i] at hm0
    refine ne_trip_same (N₆ (a0, _) (List.mem_cons_of_mem _ (List.mem_cons_of_mem _ (List.mem_cons_of_mem _ (List.mem_append_left _ hm0))))).1 (newsHd N₆).1 (by omega) (by rw [lit_nil]; rfl) (by rw [lit_nil]; rfl) (by rw [lit_nil]; rfl) ?_
    clear hra
    k_steps
    rotate_left
    · exact fin _ _ F₆ (newsTl N₆)
    unfold Halt
    rename_i hix
    obtain ⟨u, hu1, a1, u1, u2, u3, rfl, hm1⟩ := hE.2 1 (by omega)
    have N₇ := newsTl N₆
    clear N₆
    refine item_list (isList_of (newsHd (newsTl N₇)).1) (by omega) (by omega) hu1 ?_
    k_steps
    unfold Halt
    have hix' : i < x.length := by omega
    refine item_text hix' (by omega) fun t₈ tk₈ => ?_
    k_steps
    unfold Halt
    (with_reducible rename Fr _ _ _ _ => F₈)
    (with_reducible rename News _ _ _ _ => N₈)
    refine single_spec (Bg.keeps F₈.keep) (by omega) _ _ ?_
    intro h₉ tk₉ v kp₉ hT
    have F₉ := F₈.keptAll kp₉
    have N₉ := N₈.grown kp₉
    clear F₈ N₈
    obtain ⟨b1, v1, v2, v3, rfl, hb1⟩ := hT
    rw [pc_one x hix'] at hm1
    refine ne_trip_same (N₉ (a1, _) (List.mem_cons_of_mem _ (List.mem_cons_of_mem _ (List.mem_append_left _ hm1)))).1 hb1 (by omega) rfl rfl rfl ?_
    k_steps
    exact fin _ _ F₉ N₉

theorem tup_of {h : Heap} {a : Addr} {items : Array Value} (e : h.get? a = some { cls := .type "tuple", data := .seq items }) : IsTup h a items := ⟨_, e, rfl, _, rfl⟩
theorem pick3 {i' : Nat} (hi' : i' < 3) {W₁ W₂ W₃ L₁ L₂ L₃ R₁ R₂ R₃ : List Nat} {k₁ k₂ k₃ : Nat} (q₁ q₂ q₃ q₄ q₅ q₆ q₇ q₈ q₉ p₁ p₂ p₃ : Tok) (hk : k₁ ≤ 2 ∧ k₂ ≤ 2 ∧ k₃ ≤ 2)
    (e₁ : W₁ = L₁ ++ R₁.drop k₁) (e₂ : W₂ = L₂ ++ R₂.drop k₂) (e₃ : W₃ = L₃ ++ R₃.drop k₃) (hlen : W₁.length ≤ 1000 ∧ W₂.length ≤ 1000 ∧ W₃.length ≤ 1000) (hlenR : R₁.length ≤ 1000 ∧ R₂.length ≤ 1000 ∧ R₃.length ≤ 1000) :
    ∃ (Wv Lv Rv : List Nat) (kv : Nat) (b₁ b₂ b₃ b₄ : Tok), (#[Value.str ⟨W₁.toArray⟩ q₁, .str ⟨W₂.toArray⟩ q₂, .str ⟨W₃.toArray⟩ q₃])[((i' : Nat) : Int).toNat]? = some (.str ⟨Wv.toArray⟩ b₁) ∧ (#[Value.str ⟨L₁.toArray⟩ q₄, .str ⟨L₂.toArray⟩ q₅, .str ⟨L₃.toArray⟩ q₆])[((i' : Nat) : Int).toNat]? = some (.str ⟨Lv.toArray⟩ b₂) ∧
      (#[Value.str ⟨R₁.toArray⟩ q₇, .str ⟨R₂.toArray⟩ q₈, .str ⟨R₃.toArray⟩ q₉])[((i' : Nat) : Int).toNat]? = some (.str ⟨Rv.toArray⟩ b₃) ∧ (#[Value.int (k₁ : Int) p₁, .int (k₂ : Int) p₂, .int (k₃ : Int) p₃])[((i' : Nat) : Int).toNat]? = some (.int (kv : Int) b₄) ∧ Wv = Lv ++ Rv.drop kv ∧ kv ≤ 2 ∧ Wv.length ≤ 1000 ∧ Rv.length ≤ 1000 := by
  rw [Int.toNat_natCast]
  rcases (by omega : i' = 0 ∨ i' = 1 ∨ i' = 2) with rfl | rfl | rfl
  · exact ⟨W₁, L₁, R₁, k₁, q₁, q₄, q₇, p₁, rfl, rfl, rfl, rfl, e₁, hk.1, hlen.1, hlenR.1⟩
  · exact ⟨W₂, L₂, R₂, k₂, q₂, q₅, q₈, p₂, rfl, rfl, rfl, rfl, e₂, hk.2.1, hlen.2.1, hlenR.2.1⟩
  · exact ⟨W₃, L₃, R₃, k₃, q₃, q₆, q₉, p₃, rfl, rfl, rfl, rfl, e₃, hk.2.2, hlen.2.2, hlenR.2.2⟩
theorem slice_drop (y : List Nat) (k : Nat) : Txt.slice ⟨y.toArray⟩ (some (k : Int)) none = ⟨(y.drop k).toArray⟩ := by
  have hl : ((⟨y.toArray⟩ : Str).length) = y.length := List.size_toArray ..
  by_cases h : k ≤ y.length
  · rw [slice_from_eq (b := (y.length : Int)) (by omega) (by rw [hl]; exact Int.ofNat_le.mpr h) (by rw [hl])]
    rw [List.take_of_length_le (by simp)]
    simp
  · rw [slice_beyond (by rw [hl]; omega), List.drop_of_length_le (by omega)]
    rfl

/-- the way loop's hold -/
def JW (fz : List (Addr × Obj)) (m₀ : Str → Option Value) (_ : Nat) (_ : Heap) (m : Str → Option Value) (mu : List (Addr × Obj)) : Prop :=
  mu = fz ∧ ∀ y, y ≠ Str.ofString "way" → m y = m₀ y

theorem turnW {body : List Stmt} {scope : Scope} (hF : FnAt (hd.heap_39 w.params) 98 body scope) (hh : A.handled = none) {L fa : Addr} {ccd : Value} {g h : Heap} {m : Str → Option Value} {fz mu own : List (Addr × Obj)} {wr : List Addr} {s₁ : Shared}
    {Q : Flow → Shared → Prop} (Bg : Base w g) {i' : Nat} (hi' : i' < 3) {tk : Tok} {aw al ar ta : Addr} {W₁ W₂ W₃ L₁ L₂ L₃ R₁ R₂ R₃ : List Nat} {k₁ k₂ k₃ : Nat} {q₁ q₂ q₃ q₄ q₅ q₆ q₇ q₈ q₉ p₁ p₂ p₃ : Tok}
    (hW : (aw, tupO ⟨W₁.toArray⟩ ⟨W₂.toArray⟩ ⟨W₃.toArray⟩ q₁ q₂ q₃) ∈ fz) (hL : (al, tupO ⟨L₁.toArray⟩ ⟨L₂.toArray⟩ ⟨L₃.toArray⟩ q₄ q₅ q₆) ∈ fz) (hR : (ar, tupO ⟨R₁.toArray⟩ ⟨R₂.toArray⟩ ⟨R₃.toArray⟩ q₇ q₈ q₉) ∈ fz)
    (hT : (ta, tupI k₁ k₂ k₃ p₁ p₂ p₃) ∈ fz) (hk : k₁ ≤ 2 ∧ k₂ ≤ 2 ∧ k₃ ≤ 2)
    (e₁ : W₁ = L₁ ++ R₁.drop k₁) (e₂ : W₂ = L₂ ++ R₂.drop k₂) (e₃ : W₃ = L₃ ++ R₃.drop k₃) (hlen : W₁.length ≤ 1000 ∧ W₂.length ≤ 1000 ∧ W₃.length ≤ 1000) (hlenR : R₁.length ≤ 1000 ∧ R₂.length ≤ 1000 ∧ R₃.length ≤ 1000)
    {m₀ : Str → Option Value} (mw₀ : m₀ (Str.ofString "whole") = some (.ref aw)) (ml₀ : m₀ (Str.ofString "left") = some (.ref al)) (mr₀ : m₀ (Str.ofString "right") = some (.ref ar)) (mt₀ : m₀ (Str.ofString "takes") = some (.ref ta)) (hJ : JW fz m₀ i' g m mu) (hnw : ∀ p ∈ mu, p.1 ∉ wr)
    (Fz : Fr g L h (fun y => if y = Str.ofString "way" then some (.int (i' : Int) tk) else m y)) (N : News g L h (mu ++ own)) (tks : Nat) :
    wpAny (model PySem.Challenge.rw_sn0117_02.row.prog w) A (execs (forBody (nth (forBody (nth (forBody (nth (forBody (nth body 4)) 0)) 1)) 3)) (envOf (Str.ofString "law") scope L fa ccd)) (Turn L own wr (JW fz m₀ (i' + 1)) { s₁ with heap := h, toks := tks } Q g) (fun _ _ => False) { s₁ with heap := h, toks := tks } := by
  have hF' : FnAt (hd.heap_39 w.params) 98 _ _ := ⟨_, _, _, _, by k_is, rfl, rfl⟩
  obtain ⟨rfl, rfl⟩ := FnAt.inj hF hF'
  clear hF hF'
  dsimp only [nth, forBody]
  obtain ⟨rfl, hm⟩ := hJ
  have mw := (hm (Str.ofString "whole") (by decide +kernel)).trans mw₀
  have ml := (hm (Str.ofString "left") (by decide +kernel)).trans ml₀
  have mr := (hm (Str.ofString "right") (by decide +kernel)).trans mr₀
  have mt := (hm (Str.ofString "takes") (by decide +kernel)).trans mt₀
  obtain ⟨X, p, loose, mean, mg, mb, T⟩ := id Bg
  obtain ⟨Wv, Lv, Rv, kv, b₁, b₂, b₃, b₄, c₁, c₂, c₃, c₄, hcat, hkv, hWv, hRv⟩ := pick3 hi' q₁ q₂ q₃ q₄ q₅ q₆ q₇ q₈ q₉ p₁ p₂ p₃ hk e₁ e₂ e₃ hlen hlenR
  have hgo : ∀ h', News g L h' (mu ++ own) → IsTup h' aw _ ∧ IsTup h' al _ ∧ IsTup h' ar _ ∧ IsTup h' ta _ := fun h' N => ⟨tup_of (N _ (List.mem_append_left _ hW)).1, tup_of (N _ (List.mem_append_left _ hL)).1, tup_of (N _ (List.mem_append_left _ hR)).1, tup_of (N _ (List.mem_append_left _ hT)).1⟩
  k_steps
  unfold Halt
  (with_reducible rename News _ _ _ _ => N₂)
  refine item_tup (hgo _ N₂).1 (by omega) (by omega) c₁ ?_
  k_steps
  unfold Halt
  refine item_tup (hgo _ N₂).2.1 (by omega) (by omega) c₂ ?_
  k_steps
  unfold Halt
  refine item_tup (hgo _ N₂).2.2.1 (by omega) (by omega) c₃ ?_
  k_steps
  unfold Halt
  refine item_tup (hgo _ N₂).2.2.2 (by omega) (by omega) c₄ ?_
  k_steps
  unfold Halt
  (with_reducible rename Fr _ _ _ _ => F₂)
  refine slice_strN_sn_len (s := ⟨_, _, _, _, _⟩) F₂ N₂ ?_ (hsz := ?_)
  rotate_left
  · show Rv.toArray.size ≤ sizeLine
    simp [sizeLine]; omega
  intro h₃ t₃ tk₃ F₃ N₃ hsl
  rw [slice_drop]
  clear F₂ N₂
  refine add_lists (by rw [← hcat]; omega) fun t₄ tk₄ => ?_
  refine ne_same hcat ?_
  k_steps
  exact Turn.next (Keep.refl _) F₃ N₃ hnw ⟨rfl, fun y hy => (if_neg hy).trans (hm y hy)⟩

/-- all names but these are as they were -/
def JN (off : List Str) (fz : List (Addr × Obj)) (m₀ : Str → Option Value) (_ : Nat) (_ : Heap) (m : Str → Option Value) (mu : List (Addr × Obj)) : Prop :=
  mu = fz ∧ ∀ y, y ∉ off → m y = m₀ y
def offK : List Str := [Str.ofString "k", Str.ofString "whole", Str.ofString "left", Str.ofString "right", Str.ofString "way"]

theorem row_item {x : List Nat} {fz : List (Addr × Obj)} {n : Nat} {vs : Array Value} (hR : RowsAre x fz n vs) {i k : Nat} (hi : i < n) (hik : i ≤ k) (hk : k ≤ x.length) :
    ∃ ra rs c aw t₁ t₂ t₃, vs[i]? = some (.ref ra) ∧ (ra, listOf rs c) ∈ fz ∧ rs[k - i]? = some (.ref aw) ∧ (aw, tupO ⟨(fixL (pc x i k)).toArray⟩ ⟨(dotL (pc x i k)).toArray⟩ ⟨(dotL (fixL (pc x i k))).toArray⟩ t₁ t₂ t₃) ∈ fz := by
  obtain ⟨u, hu, ra, rs, c, rfl, hra, hE⟩ := hR.2 i hi
  obtain ⟨v, hv, aw, t₁, t₂, t₃, rfl, haw⟩ := hE.2 (k - i) (by omega)
  rw [show i + (k - i) = k by omega] at haw
  exact ⟨ra, rs, c, aw, t₁, t₂, t₃, hu, hra, hv, haw⟩

theorem turnK {body : List Stmt} {scope : Scope} (hF : FnAt (hd.heap_39 w.params) 98 body scope) (hh : A.handled = none) {L fa : Addr} {ccd : Value} {g h : Heap} {m m₀ : Str → Option Value} {fz mu own : List (Addr × Obj)} {wr : List Addr} {s₁ : Shared}
    {Q : Flow → Shared → Prop} (Bg : Base w g) (x : List Nat) (hx7 : x.length ≤ 7) {i j kk : Nat} {tk ti tj : Tok} (hij : i < j) (hjn : j < x.length) (hkk : j + 1 + kk ≤ x.length) {wa ta : Addr} {vs : Array Value} {cw : Nat} {p₁ p₂ p₃ : Tok}
    (hwa : (wa, listOf vs cw) ∈ fz) (hR : RowsAre x fz (x.length + 1) vs) (hta : (ta, tupI (takeF (x.getD (j - 1) 0) (x.getD j 0)) (takeD (x.getD (j - 1) 0) (x.getD j 0)) (takeQ (x.getD (j - 1) 0) (x.getD j 0)) p₁ p₂ p₃) ∈ fz)
    (mw₀ : m₀ (Str.ofString "written") = some (.ref wa)) (mi₀ : m₀ (Str.ofString "i") = some (.int (i : Int) ti)) (mj₀ : m₀ (Str.ofString "j") = some (.int (j : Int) tj)) (mt₀ : m₀ (Str.ofString "takes") = some (.ref ta))
    (hJ : JN offK fz m₀ kk g m mu) (hnw : ∀ p ∈ mu, p.1 ∉ wr)
    (Fz : Fr g L h (fun y => if y = Str.ofString "k" then some (.int ((j : Int) + 1 + (kk : Int)) tk) else m y)) (N : News g L h (mu ++ own)) (tks : Nat) :
    wpAny (model PySem.Challenge.rw_sn0117_02.row.prog w) A (execs (forBody (nth (forBody (nth (forBody (nth body 4)) 0)) 1)) (envOf (Str.ofString "law") scope L fa ccd)) (Turn L own wr (JN offK fz m₀ (kk + 1)) { s₁ with heap := h, toks := tks } Q g) (fun _ _ => False) { s₁ with heap := h, toks := tks } := by
  have hF' : FnAt (hd.heap_39 w.params) 98 _ _ := ⟨_, _, _, _, by k_is, rfl, rfl⟩
  obtain ⟨rfl, rfl⟩ := FnAt.inj hF hF'
  clear hF
  dsimp only [nth, forBody]
  obtain ⟨rfl, hm⟩ := hJ
  have mw := (hm (Str.ofString "written") (by decide +kernel)).trans mw₀
  have mi := (hm (Str.ofString "i") (by decide +kernel)).trans mi₀
  have mj := (hm (Str.ofString "j") (by decide +kernel)).trans mj₀
  have mt := (hm (Str.ofString "takes") (by decide +kernel)).trans mt₀
  obtain ⟨X, p, loose, mean, mg, mb, T⟩ := id Bg
  obtain ⟨k, hk⟩ : ∃ k : Nat, k = j + 1 + kk := ⟨_, rfl⟩
  rw [show (j : Int) + 1 + (kk : Int) = (k : Int) by omega] at Fz
  obtain ⟨r₁, rs₁, n₁, aw, a₁, a₂, a₃, hv₁, hr₁, hs₁, hw₁⟩ := row_item hR (i := i) (k := k) (by omega) (by omega) (by omega)
  obtain ⟨r₂, rs₂, n₂, al, a₄, a₅, a₆, hv₂, hr₂, hs₂, hw₂⟩ := row_item hR (i := i) (k := j) (by omega) (by omega) (by omega)
  obtain ⟨r₃, rs₃, n₃, ar, a₇, a₈, a₉, hv₃, hr₃, hs₃, hw₃⟩ := row_item hR (i := j) (k := k) (by omega) (by omega) (by omega)
  have toL : ∀ h' (a : Addr) (its : Array Value) (c : Nat), News g L h' (mu ++ own) → (a, listOf its c) ∈ mu → h'.IsList a its := fun h' _ _ _ N hm => isList_of (N _ (List.mem_append_left _ hm)).1
  k_steps
  unfold Halt
  (with_reducible rename News _ _ _ _ => N₂)
  refine item_list (toL _ _ _ _ N₂ hwa) (by omega) (by omega) (by rw [Int.toNat_natCast]; exact hv₁) ?_
  k_steps
  unfold Halt
  refine item_list (toL _ _ _ _ N₂ hr₁) (by omega) (by omega) (by rw [show ((k : Int) - (i : Int)).toNat = k - i by omega]; exact hs₁) ?_
  k_steps
  unfold Halt
  (with_reducible rename News _ _ _ _ => N₂)
  refine item_list (toL _ _ _ _ N₂ hwa) (by omega) (by omega) (by rw [Int.toNat_natCast]; exact hv₂) ?_
  k_steps
  unfold Halt
  refine item_list (toL _ _ _ _ N₂ hr₂) (by omega) (by omega) (by rw [show ((j : Int) - (i : Int)).toNat = j - i by omega]; exact hs₂) ?_
  k_steps
  unfold Halt
  (with_reducible rename News _ _ _ _ => N₂)
  refine item_list (toL _ _ _ _ N₂ hwa) (by omega) (by omega) (by rw [Int.toNat_natCast]; exact hv₃) ?_
  k_steps
  unfold Halt
  refine item_list (toL _ _ _ _ N₂ hr₃) (by omega) (by omega) (by rw [show ((k : Int) - (j : Int)).toNat = k - j by omega]; exact hs₃) ?_
  k_steps
  unfold Halt
  (with_reducible rename Fr _ _ _ _ => F₂)
  (with_reducible rename News _ _ _ _ => N₂)
  refine named F₂ fun m₁ hm₁ => ?_
  refine for_range hh rfl rfl (JW (mu ++ own) m₁) ?_
  k_steps
  unfold Halt
  refine range1 fun h₃ r tk₃ kp₃ hr₃ => ?_
  have F₃ := F₂.keptAll kp₃
  have N₃ := N₂.grown kp₃
  clear F₂ N₂
  refine ⟨r, 0, 3, g, _, _, rfl, hr₃, by omega, by omega, by omega, by omega, F₃, N₃, ⟨rfl, fun y _ => by rw [hm₁]⟩, ?_, ?_⟩
  · intro i' tw g₁ m₁ news₁ h₄ tk₄ own₁ wr₁ hi' hJ kg hnw₁ hown₁ hsub₁ F₄ N₄
    rw [Int.zero_add] at F₄
    have hs := pc_seam x (i := i) (j := j) (k := k) hij (by omega) (by omega)
    have hb : ∀ {i k : Nat}, i ≤ k → k ≤ x.length → (fixL (pc x i k)).length ≤ 1000 ∧ (dotL (pc x i k)).length ≤ 1000 ∧ (dotL (fixL (pc x i k))).length ≤ 1000 := by
      intro i k _ hk
      have h0 := pc_length x (i := i) hk
      have h1 := fix_len false (pc x i k)
      have h2 := dot_len true (pc x i k)
      have h3 := dot_len true (fixS false (pc x i k))
      unfold dotL fixL
      omega
    refine turnW hF' hh (Bg.keeps kg) (by omega) (List.mem_append_left _ hw₁) (List.mem_append_left _ hw₂) (List.mem_append_left _ hw₃) (List.mem_append_left _ hta) ?_ hs.1 hs.2.1 hs.2.2 (hb (by omega) (by omega)) (hb (by omega) (by omega)) ?_ ?_ ?_ ?_ hJ hnw₁ F₄ N₄ _
    · unfold takeF takeD takeQ
      refine ⟨?_, ?_, ?_⟩ <;> (repeat' split) <;> omega
    · rw [hm₁]; walk_at "mine look"
    · rw [hm₁]; walk_at "mine look"
    · rw [hm₁]; walk_at "mine look"
    · rw [hm₁]; walk_at "mine look"
  · clear F₃ N₃ hF'
    rintro g' h₄ tk₄ m₄ news₄ kg F₄ N₄ ⟨rfl, hm₄⟩
    k_steps
    refine Turn.next kg F₄ N₄ hnw ⟨rfl, fun y hy => ?_⟩
    simp only [offK, List.mem_cons, List.not_mem_nil, or_false, not_or] at hy
    obtain ⟨y1, y2, y3, y4, y5⟩ := hy
    rw [hm₄ y y5, hm₁]
    simp only [if_neg y1, if_neg y2, if_neg y3, if_neg y4]
    exact hm y (by simp [offK, *])

def offJ : List Str := [Str.ofString "j", Str.ofString "takes", Str.ofString "k", Str.ofString "whole", Str.ofString "left", Str.ofString "right", Str.ofString "way"]

theorem turnJ {body : List Stmt} {scope : Scope} (hF : FnAt (hd.heap_39 w.params) 98 body scope) (hh : A.handled = none) (hr : A.depth + 3 < recursionLimit) {L fa : Addr} {ccd : Value} {g h : Heap} {m m₀ : Str → Option Value} {fz mu own : List (Addr × Obj)} {wr : List Addr} {s₁ : Shared}
    {Q : Flow → Shared → Prop} (Bg : Base w g) (x : List Nat) (hx7 : x.length ≤ 7) {i jj : Nat} {t tj ti : Tok} (hjj : i + 1 + jj < x.length) {wa : Addr} {vs : Array Value} {cw : Nat}
    (hwa : (wa, listOf vs cw) ∈ fz) (hR : RowsAre x fz (x.length + 1) vs)
    (mx₀ : m₀ (Str.ofString "text") = some (.str ⟨x.toArray⟩ t)) {ts : Tok} (ms₀ : m₀ (Str.ofString "size") = some (.int (x.length : Int) ts)) (mw₀ : m₀ (Str.ofString "written") = some (.ref wa)) (mi₀ : m₀ (Str.ofString "i") = some (.int (i : Int) ti))
    (hJ : JN offJ fz m₀ jj g m mu) (hnw : ∀ p ∈ mu, p.1 ∉ wr)
    (Fz : Fr g L h (fun y => if y = Str.ofString "j" then some (.int ((i : Int) + 1 + (jj : Int)) tj) else m y)) (N : News g L h (mu ++ own)) (tks : Nat) :
    wpAny (model PySem.Challenge.rw_sn0117_02.row.prog w) A (execs (forBody (nth (forBody (nth body 4)) 0)) (envOf (Str.ofString "law") scope L fa ccd)) (Turn L own wr (JN offJ fz m₀ (jj + 1)) { s₁ with heap := h, toks := tks } Q g) (fun _ _ => False) { s₁ with heap := h, toks := tks } := by
  have hF' : FnAt (hd.heap_39 w.params) 98 _ _ := ⟨_, _, _, _, by k_is, rfl, rfl⟩
  obtain ⟨rfl, rfl⟩ := FnAt.inj hF hF'
  clear hF
  dsimp only [nth, forBody]
  obtain ⟨rfl, hm⟩ := hJ
  have mx := (hm (Str.ofString "text") (by decide +kernel)).trans mx₀
  have ms := (hm (Str.ofString "size") (by decide +kernel)).trans ms₀
  have mw := (hm (Str.ofString "written") (by decide +kernel)).trans mw₀
  have mi := (hm (Str.ofString "i") (by decide +kernel)).trans mi₀
  obtain ⟨X, p, loose, mean, mg, mb, T⟩ := id Bg
  obtain ⟨j, hj⟩ : ∃ j : Nat, j = i + 1 + jj := ⟨_, rfl⟩
  rw [show (i : Int) + 1 + (jj : Int) = (j : Int) by omega] at Fz
  k_steps
  unfold Halt
  rw [show (j : Int) - 1 = ((j - 1 : Nat) : Int) by omega]
  refine item_text (by omega) (by omega) fun t₂ tk₂ => ?_
  k_steps
  unfold Halt
  refine item_text (by omega) (by omega) fun t₃ tk₃ => ?_
  k_steps
  unfold Halt
  (with_reducible rename Fr _ _ _ _ => F₂)
  (with_reducible rename News _ _ _ _ => N₂)
  refine seam_spec (Bg.keeps F₂.keep) (by omega) _ _ _ _ ?_
  intro h₃ tk₃ ta p₁ p₂ p₃ kp₃ hta hfr
  have F₃ := F₂.keptAll kp₃
  have N₃ : News g L h₃ ((ta, tupI (takeF (x.getD (j - 1) 0) (x.getD j 0)) (takeD (x.getD (j - 1) 0) (x.getD j 0)) (takeQ (x.getD (j - 1) 0) (x.getD j 0)) p₁ p₂ p₃) :: (mu ++ own)) := newsCon (fresh_news F₂ hta hfr) (N₂.grown kp₃)
  have hfr' : ∀ p ∈ mu ++ own, p.1 ≠ ta := fun p hp e => by
    have := (N₂ p hp).1
    rw [e, hfr] at this
    cases this
  clear F₂ N₂ hfr
  k_steps
  unfold Halt
  (with_reducible rename Fr _ _ _ _ => F₂)
  (with_reducible rename News _ _ _ _ => N₂)
  refine named F₂ fun m₁ hm₁ => ?_
  refine for_range hh rfl rfl (JN offK ((ta, tupI (takeF (x.getD (j - 1) 0) (x.getD j 0)) (takeD (x.getD (j - 1) 0) (x.getD j 0)) (takeQ (x.getD (j - 1) 0) (x.getD j 0)) p₁ p₂ p₃) :: (mu ++ own)) m₁) ?_
  k_steps
  unfold Halt
  refine range2 fun h₄ r tk₄ kp₄ hr₄ => ?_
  have F₃ := F₂.keptAll kp₄
  have N₃ := N₂.grown kp₄
  clear F₂ N₂
  have inn : ∀ q ∈ mu, q ∈ ((ta, tupI (takeF (x.getD (j - 1) 0) (x.getD j 0)) (takeD (x.getD (j - 1) 0) (x.getD j 0)) (takeQ (x.getD (j - 1) 0) (x.getD j 0)) p₁ p₂ p₃) :: (mu ++ own)) := fun q hq => List.mem_cons_of_mem _ (List.mem_append_left _ hq)
  refine ⟨r, (j : Int) + 1, (x.length : Int) + 1, g, _, _, rfl, hr₄, by omega, by omega, by omega, by omega, F₃, N₃, ⟨rfl, fun y _ => by rw [hm₁]⟩, ?_, ?_⟩
  · intro kk tw g₁ m₂ news₁ h₅ tk₅ own₁ wr₁ hkk hJ kg hnw₁ hown₁ hsub₁ F₄ N₄
    refine turnK hF' hh (Bg.keeps kg) x hx7 (i := i) (j := j) (ti := ti) (tj := tj) (by omega) (by omega) (by omega) (inn _ hwa) (hR.mono inn) (List.mem_cons_self ..) ?_ ?_ ?_ ?_ hJ hnw₁ F₄ N₄ _
    · rw [hm₁]; walk_at "mine look"
    · rw [hm₁]; walk_at "mine look"
    · rw [hm₁]; walk_at "mine look"
    · rw [hm₁]; walk_at "mine look"
  · clear F₃ N₃ hF'
    rintro g' h₄ tk₄ m₄ news₄ kg F₄ N₄ ⟨rfl, hm₄⟩
    k_steps
    refine Turn.next kg F₄ (newsTl N₄) hnw ⟨rfl, fun y hy => ?_⟩
    simp only [offJ, List.mem_cons, List.not_mem_nil, or_false, not_or] at hy
    obtain ⟨y1, y2, y3, y4, y5, y6, y7⟩ := hy
    rw [hm₄ y (by simp only [offK, List.mem_cons, List.not_mem_nil, or_false, not_or]; exact ⟨y3, y4, y5, y6, y7⟩), hm₁]
    simp only [if_neg y1, if_neg y2]
    exact hm y (by simp only [offJ, List.mem_cons, List.not_mem_nil, or_false, not_or]; exact ⟨y1, y2, y3, y4, y5, y6, y7⟩)

def offI : List Str := [Str.ofString "i", Str.ofString "j", Str.ofString "takes", Str.ofString "k", Str.ofString "whole", Str.ofString "left", Str.ofString "right", Str.ofString "way"]

theorem turnI {body : List Stmt} {scope : Scope} (hF : FnAt (hd.heap_39 w.params) 98 body scope) (hh : A.handled = none) (hr : A.depth + 3 < recursionLimit) {L fa : Addr} {ccd : Value} {g h : Heap} {m m₀ : Str → Option Value} {fz mu own : List (Addr × Obj)} {wr : List Addr} {s₁ : Shared}
    {Q : Flow → Shared → Prop} (Bg : Base w g) (x : List Nat) (hx7 : x.length ≤ 7) {i : Nat} {t ti : Tok} (hi : i < x.length) {wa : Addr} {vs : Array Value} {cw : Nat}
    (hwa : (wa, listOf vs cw) ∈ fz) (hR : RowsAre x fz (x.length + 1) vs)
    (mx₀ : m₀ (Str.ofString "text") = some (.str ⟨x.toArray⟩ t)) {ts : Tok} (ms₀ : m₀ (Str.ofString "size") = some (.int (x.length : Int) ts)) (mw₀ : m₀ (Str.ofString "written") = some (.ref wa))
    (hJ : JN offI fz m₀ i g m mu) (hnw : ∀ p ∈ mu, p.1 ∉ wr)
    (Fz : Fr g L h (fun y => if y = Str.ofString "i" then some (.int (i : Int) ti) else m y)) (N : News g L h (mu ++ own)) (tks : Nat) :
    wpAny (model PySem.Challenge.rw_sn0117_02.row.prog w) A (execs (forBody (nth body 4)) (envOf (Str.ofString "law") scope L fa ccd)) (Turn L own wr (JN offI fz m₀ (i + 1)) { s₁ with heap := h, toks := tks } Q g) (fun _ _ => False) { s₁ with heap := h, toks := tks } := by
  have hF' : FnAt (hd.heap_39 w.params) 98 _ _ := ⟨_, _, _, _, by k_is, rfl, rfl⟩
  obtain ⟨rfl, rfl⟩ := FnAt.inj hF hF'
  clear hF
  dsimp only [nth, forBody]
  obtain ⟨rfl, hm⟩ := hJ
  have mx := (hm (Str.ofString "text") (by decide +kernel)).trans mx₀
  have ms := (hm (Str.ofString "size") (by decide +kernel)).trans ms₀
  have mw := (hm (Str.ofString "written") (by decide +kernel)).trans mw₀
  obtain ⟨X, p, loose, mean, mg, mb, T⟩ := id Bg
  k_steps
  unfold Halt
  (with_reducible rename Fr _ _ _ _ => F₂)
  (with_reducible rename News _ _ _ _ => N₂)
  refine named F₂ fun m₁ hm₁ => ?_
  refine for_range hh rfl rfl (JN offJ (mu ++ own) m₁) ?_
  k_steps
  unfold Halt
  refine range2 fun h₄ r tk₄ kp₄ hr₄ => ?_
  have F₃ := F₂.keptAll kp₄
  have N₃ := N₂.grown kp₄
  clear F₂ N₂
  have inn : ∀ q ∈ mu, q ∈ mu ++ own := fun q hq => List.mem_append_left _ hq
  refine ⟨r, (i : Int) + 1, (x.length : Int), g, _, _, rfl, hr₄, by omega, by omega, by omega, by omega, F₃, N₃, ⟨rfl, fun y _ => by rw [hm₁]⟩, ?_, ?_⟩
  · intro jj tw g₁ m₂ news₁ h₅ tk₅ own₁ wr₁ hjj hJ kg hnw₁ hown₁ hsub₁ F₄ N₄
    refine turnJ hF' hh hr (Bg.keeps kg) x hx7 (i := i) (jj := jj) (t := t) (ti := ti) (ts := ts) (by omega) (inn _ hwa) (hR.mono inn) ?_ ?_ ?_ ?_ hJ hnw₁ F₄ N₄ _
    · rw [hm₁]; walk_at "mine look"
    · rw [hm₁]; walk_at "mine look"
    · rw [hm₁]; walk_at "mine look"
    · rw [hm₁]; walk_at "mine look"
  · clear F₃ N₃ hF'
    rintro g' h₄ tk₄ m₄ news₄ kg F₄ N₄ ⟨rfl, hm₄⟩
    k_steps
    refine Turn.next kg F₄ N₄ hnw ⟨rfl, fun y hy => ?_⟩
    simp only [offI, List.mem_cons, List.not_mem_nil, or_false, not_or] at hy
    obtain ⟨y0, y1, y2, y3, y4, y5, y6, y7⟩ := hy
    rw [hm₄ y (by simp only [offJ, List.mem_cons, List.not_mem_nil, or_false, not_or]; exact ⟨y1, y2, y3, y4, y5, y6, y7⟩), hm₁]
    simp only [if_neg y0]
    exact hm y (by simp only [offI, List.mem_cons, List.not_mem_nil, or_false, not_or]; exact ⟨y0, y1, y2, y3, y4, y5, y6, y7⟩)

theorem law_02 : PySem.Challenge.rw_sn0117_02.Holds := hd (by
  k_go0
  all_goals (try k_fold)
  k_steps
  unfold Halt
  (with_reducible rename Fr _ _ _ _ => F)
  (with_reducible rename News _ _ _ _ => N)
  (with_reducible rename Top _ _ _ _ _ _ => T)
  (with_reducible rename (Frag.In _ _) => X)
  (with_reducible rename Heap.IsList _ _ _ => hL)
  (with_reducible rename IntsAre _ _ => hI)
  (with_reducible rename ¬ _ < _ => hcond)
  have hc63 := hcond
  refine' text_spec ?kb rfl ?kd _ _ _ (hL.at fun o e => F.keep _ o e) ?ki ?kn ?_
  case kb => exact ⟨X.keeps F.keep, _, _, _, _, _, T.keeps F.keep⟩
  case kd => rw [depth_deeper, depth_caller]; decide
  case ki => simpa using hI
  case kn => omega
  intro h₂ tk t x kp₂ hx7 hx256
  have F₂ := F.keptAll kp₂
  have N₂ := N.grown kp₂
  clear F N
  (with_reducible rename World => ww)
  have hF : FnAt (hd.heap_39 ww.params) 98 _ _ := ⟨_, _, _, _, by k_is, rfl, rfl⟩
  k_steps
  refine P.len_str (by show ¬ ((x.toArray.size : Nat) : Int) ≥ 2 ^ 63; simp; omega) ?_
  rw [show ((⟨x.toArray⟩ : Str).length) = x.length from List.size_toArray ..]
  k_steps
  unfold Halt
  (with_reducible rename Fr _ _ _ _ => F₂)
  (with_reducible rename News _ _ _ _ => N₂)
  refine wpAny_mono (for_range rfl rfl rfl (J1 x t) ?_) (fun _ _ y => y) (fun _ _ y => y.elim)
  k_steps
  unfold Halt
  refine range1 fun h₄ r tk₄ kp₄ hr₄ => ?_
  have F₃ := F₂.keptAll kp₄
  have N₃ := N₂.grown kp₄
  clear F₂ N₂
  have Bg : Base _ _ := ⟨X, _, _, _, _, _, T⟩
  refine ⟨r, 0, (x.length : Int) + 1, _, _, _, rfl, hr₄, by omega, by omega, by omega, by omega, F₃, N₃, ⟨_, #[], 0, [], ?mx, ⟨?tz, ?ms⟩, ?mw, rfl, (fun _ h => nomatch h), ⟨rfl, fun j hj => absurd hj (Nat.not_lt_zero _)⟩⟩, ?_, ?_⟩
  case mx => walk_at "mine look"
  case ms => walk_at "mine look"
  case mw => walk_at "mine look"
  · intro i ti g₁ m₂ news₁ h₅ tk₅ own₁ wr₁ hi hJ kg hnw₁ hown₁ hsub₁ F₄ N₄
    rw [Int.zero_add] at F₄
    exact turn1 hF rfl (by rw [depth_deeper, depth_caller]; decide) (by show 4 + 3 + 20 < cLine; decide) (Bg.keeps kg) x hx7 hx256 (by omega) hJ hnw₁ hsub₁ hown₁ F₄ N₄ _
  · clear F₃ N₃
    rintro g' h₅ tk₅ m₄ news₄ kg F₄ N₄ ⟨wa, vs, cw, fz, mx, ⟨ts, ms⟩, mw, rfl, hfz, hR⟩
    have X := X.keeps kg
    have T := T.keeps kg
    k_steps
    unfold Halt
    (with_reducible rename Fr _ _ _ _ => F₂)
    (with_reducible rename News _ _ _ _ => N₂)
    refine named F₂ fun m₁ hm₁ => ?_
    refine wpAny_mono (for_range rfl rfl rfl (JN offI ((wa, listOf vs cw) :: fz) m₁) ?_) (fun _ _ y => y) (fun _ _ y => y.elim)
    k_steps
    unfold Halt
    refine range1 fun h₆ r₆ tk₆ kp₆ hr₆ => ?_
    have F₃ := F₂.keptAll kp₆
    have N₃ := N₂.grown kp₆
    clear F₂ N₂
    refine ⟨r₆, 0, (x.length : Int), g', _, _, rfl, hr₆, by omega, by omega, by omega, by omega, F₃, N₃, ⟨rfl, fun y _ => by rw [hm₁]⟩, ?_, ?_⟩
    · intro i ti g₁ m₂ news₁ h₅ tk₅ own₁ wr₁ hi hJ kg₂ hnw₁ hown₁ hsub₁ F₄ N₄
      rw [Int.zero_add] at F₄
      refine turnI hF rfl (by rw [depth_deeper, depth_caller]; decide) ((Bg.keeps kg).keeps kg₂) x hx7 (t := t) (ts := ts) (by omega) (List.mem_cons_self ..) (hR.mono fun q hq => List.mem_cons_of_mem _ hq) ?_ ?_ ?_ hJ hnw₁ F₄ N₄ _
      · rw [hm₁]; exact mx
      · rw [hm₁]; exact ms
      · rw [hm₁]; exact mw
    · clear F₃ N₃
      rintro g₃ h₇ tk₇ m₇ news₇ kg₇ F₄ N₄ ⟨rfl, hm₇⟩
      have X := X.keeps kg₇
      have T := T.keeps kg₇
      k_steps
      refine goodW_bool (L := _) (m := m₇) ⟨F₄.ns, fun b o e => F₄.keep b o (kg₇ _ _ (kg _ _ e)), Nat.le_refl _⟩ (by assumption) (raisesW_false (by wrow_none_raised)) ?_
      wrow_post)

end
end Mine

theorem PySem.Challenge.cw_sn0117_02_holds : PySem.Challenge.rw_sn0117_02.Holds := by
  exact Mine.law_02
