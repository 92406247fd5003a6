/-
  THE AUTOMATON of a number, and that it reads what 'num' reads.
-/
import Derived.Test.Qxb6600109aPlain
namespace Go.Proofs.Qxb6600109a.Pl

def step (st c : Int) : Int :=
  if st = 0 then (if c = 45 then 1 else if c = 48 then 2 else if dig c then 3 else -1)
  else if st = 1 then (if c = 48 then 2 else if dig c then 3 else -1)
  else if st = 2 then (if c = 46 then 4 else if c = 101 ∨ c = 69 then 6 else -1)
  else if st = 3 then (if dig c then 3 else if c = 46 then 4 else if c = 101 ∨ c = 69 then 6 else -1)
  else if st = 4 then (if dig c then 5 else -1)
  else if st = 5 then (if dig c then 5 else if c = 101 ∨ c = 69 then 6 else -1)
  else if st = 6 then (if c = 43 ∨ c = 45 then 7 else if dig c then 8 else -1)
  else if st = 7 ∨ st = 8 then (if dig c then 8 else -1)
  else -1
def accept (st : Int) : Bool := st == 2 || st == 3 || st == 5 || st == 8

def run : Int → List Int → Int × List Int
  | st, [] => (st, [])
  | st, c :: r => if step st c < 0 then (st, c :: r) else run (step st c) r

theorem step_range (st c : Int) : step st c = -1 ∨ (0 ≤ step st c ∧ step st c ≤ 8) := by
  unfold step
  repeat' split
  all_goals omega

theorem digits_cons (c : Int) (r : List Int) : digits (c :: r) = if dig c then digits r else c :: r := by
  by_cases h : dig c = true
  · rw [if_pos h]; simp [digits, h]
  · rw [if_neg h]; simp [digits, h]
theorem digits_len (l : List Int) : (digits l).length ≤ l.length := by
  induction l with
  | nil => simp [digits]
  | cons c r ih => rw [digits_cons]; split <;> simp; omega

theorem run8 (l : List Int) : run 8 l = (8, digits l) := by
  induction l with
  | nil => rfl
  | cons c r ih =>
    rw [digits_cons]
    by_cases h : dig c = true <;> simp [run, step, h, ih]
theorem run5 (l : List Int) : run 5 l = match digits l with | [] => (5, []) | c :: r => if c = 101 ∨ c = 69 then run 6 r else (5, c :: r) := by
  induction l with
  | nil => rfl
  | cons c r ih =>
    rw [digits_cons]
    by_cases h : dig c = true
    · simp [run, step, h, ih]
    · by_cases h' : c = 101 ∨ c = 69 <;> simp [run, step, h, h']
theorem run3 (l : List Int) : run 3 l = match digits l with | [] => (3, []) | c :: r => if c = 46 then run 4 r else if c = 101 ∨ c = 69 then run 6 r else (3, c :: r) := by
  induction l with
  | nil => rfl
  | cons c r ih =>
    rw [digits_cons]
    by_cases h : dig c = true
    · simp [run, step, h, ih]
    · by_cases h2 : c = 46
      · subst h2; simp [run, step, dig]
      · by_cases h' : c = 101 ∨ c = 69 <;> simp [run, step, h, h', h2]

/-- What the automaton says: read, or a fault. -/
def verdict (q : Int × List Int) : Option (List Int) := if accept q.1 then some q.2 else none

theorem verdict8 (l : List Int) : verdict (run 8 l) = some (digits l) := by rw [run8]; rfl
theorem verdict7 (l : List Int) : verdict (run 7 l) = some1 l := by
  cases l with
  | nil => rfl
  | cons c r =>
    have hl := digits_len r
    by_cases h : dig c = true
    · simp only [run, step, h]
      simp [verdict8, some1, digits_cons, h]
      omega
    · simp [run, step, h, verdict, accept, some1, digits_cons]
theorem verdict6 (l : List Int) : verdict (run 6 l) = some1 (sign l) := by
  cases l with
  | nil => rfl
  | cons c r =>
    have hl := digits_len r
    by_cases h1 : c = 43 ∨ c = 45
    · simp [run, step, h1, sign, verdict7]
    · by_cases h : dig c = true
      · simp only [run, step, h]
        simp [verdict8, some1, digits_cons, h, h1, sign]
        omega
      · simp [run, step, h, h1, verdict, accept, some1, digits_cons, sign]
theorem verdict5 (l : List Int) : verdict (run 5 l) = expo (digits l) := by
  rw [run5]
  cases h : digits l with
  | nil => rfl
  | cons c r =>
    by_cases h1 : c = 101 ∨ c = 69
    · simp [h1, expo, verdict6]
    · simp [h1, expo, verdict, accept]
theorem verdict4 (l : List Int) : verdict (run 4 l) = (some1 l).bind expo := by
  cases l with
  | nil => rfl
  | cons c r =>
    have hl := digits_len r
    by_cases h : dig c = true
    · have hne : ¬ (digits r).length = r.length + 1 := by omega
      simp [run, step, h, verdict5, some1, digits_cons, hne]
    · simp [run, step, h, verdict, accept, some1, digits_cons]
theorem verdict3 (l : List Int) : verdict (run 3 l) = (frac (digits l)).bind expo := by
  rw [run3]
  cases h : digits l with
  | nil => rfl
  | cons c r =>
    by_cases h0 : c = 46
    · simp [h0, frac, verdict4]
    · by_cases h1 : c = 101 ∨ c = 69
      · simp [h0, h1, frac, expo, verdict6]
      · simp [h0, h1, frac, expo, verdict, accept]
theorem verdict2 (l : List Int) : verdict (run 2 l) = (frac l).bind expo := by
  cases l with
  | nil => rfl
  | cons c r =>
    by_cases h0 : c = 46
    · simp [run, step, h0, frac, verdict4]
    · by_cases h1 : c = 101 ∨ c = 69
      · simp [run, step, h0, h1, frac, expo, verdict6]
      · simp [run, step, h0, h1, frac, expo, verdict, accept]
theorem dig_iff (c : Int) : dig c = true ↔ 48 ≤ c ∧ c ≤ 57 := by simp [dig]
theorem verdict1 (l : List Int) : verdict (run 1 l) = ((intp l).bind frac).bind expo := by
  cases l with
  | nil => rfl
  | cons c r =>
    by_cases h0 : c = 48
    · simp [run, step, h0, intp, verdict2]
    · by_cases h : dig c = true
      · have h2 : 49 ≤ c ∧ c ≤ 57 := by rw [dig_iff] at h; omega
        simp [run, step, h0, h, intp, h2, verdict3, digits_cons]
      · have h2 : ¬ (49 ≤ c ∧ c ≤ 57) := by rw [dig_iff] at h; omega
        simp [run, step, h0, h, intp, h2, verdict, accept]
theorem verdict0 (l : List Int) : verdict (run 0 l) = num l := by
  cases l with
  | nil => rfl
  | cons c r =>
    by_cases h45 : c = 45
    · subst h45
      have := verdict1 r
      simp [run, step, num, minus, this]
    · have e : verdict (run 0 (c :: r)) = verdict (run 1 (c :: r)) := by
        by_cases h0 : c = 48
        · simp [run, step, h0]
        · by_cases h : dig c = true
          · simp [run, step, h0, h, h45]
          · simp [run, step, h0, h, h45, verdict, accept]
      rw [e, verdict1, num]
      simp [minus, h45]

end Go.Proofs.Qxb6600109a.Pl
