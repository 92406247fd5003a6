/-
  A NUMBER's TOKEN, cut out of its text: read alone, or ahead of something that cannot go on with it, it is read whole.
-/
import Derived.Test.Qxb6600109aAuto
namespace Go.Proofs.Qxb6600109a.Pl

theorem run_suffix (l : List Int) : ∀ st st' r, run st l = (st', r) → ∃ v, l = v ++ r := by
  induction l with
  | nil =>
    intro st st' r h
    simp [run] at h
    exact ⟨[], by simp [h.2]⟩
  | cons c t ih =>
    intro st st' r h
    by_cases hs : step st c < 0
    · simp [run, hs] at h
      exact ⟨[], by simp [h.2]⟩
    · simp [run, hs] at h
      obtain ⟨v, hv⟩ := ih _ _ _ h
      exact ⟨c :: v, by simp [hv]⟩

theorem run_cut (v : List Int) : ∀ st st' r r', run st (v ++ r) = (st', r) → (∀ c t, r' = c :: t → r.head? = some c ∨ step st' c < 0) → run st (v ++ r') = (st', r') := by
  induction v with
  | nil =>
    intro st st' r r' h h'
    have hst : st' = st ∧ ∀ c t, r = c :: t → step st c < 0 := by
      cases r with
      | nil => simp [run] at h; exact ⟨h.symm, by simp⟩
      | cons c t =>
        by_cases hs : step st c < 0
        · simp [run, hs] at h
          exact ⟨h.symm, fun c' t' e => by cases e; exact hs⟩
        · simp [run, hs] at h
          obtain ⟨u, hu⟩ := run_suffix _ _ _ _ h
          have := congrArg List.length hu
          simp at this
          omega
    obtain ⟨rfl, hst⟩ := hst
    cases r' with
    | nil => simp [run]
    | cons c t =>
      have hs : step st' c < 0 := by
        rcases h' c t rfl with h1 | h1
        · cases r with
          | nil => simp at h1
          | cons c2 t2 => simp at h1; subst h1; exact hst _ _ rfl
        · exact h1
      simp [run, hs]
  | cons c v ih =>
    intro st st' r r' h h'
    by_cases hs : step st c < 0
    · simp [run, hs] at h
      have := congrArg List.length h.2
      simp at this
      omega
    · simp [run, hs] at h ⊢
      exact ih _ _ _ _ h h'

theorem num_run {l r : List Int} (h : num l = some r) : ∃ st, run 0 l = (st, r) ∧ accept st = true := by
  rw [← verdict0] at h
  unfold verdict at h
  by_cases ha : accept (run 0 l).1 = true
  · rw [if_pos ha] at h
    exact ⟨(run 0 l).1, by rw [← Option.some.inj h], ha⟩
  · rw [if_neg ha] at h
    cases h

theorem run_num {l r : List Int} {st : Int} (h : run 0 l = (st, r)) (ha : accept st = true) : num l = some r := by
  rw [← verdict0, h]
  simp [verdict, ha]

theorem num_suffix {l r : List Int} (h : num l = some r) : ∃ v, l = v ++ r ∧ v ≠ [] := by
  obtain ⟨st, h1, h2⟩ := num_run h
  obtain ⟨v, hv⟩ := run_suffix _ _ _ _ h1
  refine ⟨v, hv, fun e => ?_⟩
  subst e
  rw [hv] at h1
  have := run_cut [] 0 st r [] h1 (by simp)
  simp [run] at this
  subst this
  cases h2

/-- Behind a number: nothing, or what stood there, or what no number goes on with. -/
theorem num_cut {v r r' : List Int} (h : num (v ++ r) = some r) (h' : ∀ c t, r' = c :: t → r.head? = some c ∨ ∀ st, accept st = true → step st c < 0) : num (v ++ r') = some r' := by
  obtain ⟨st, h1, h2⟩ := num_run h
  refine run_num (run_cut v 0 st r r' h1 (fun c t e => ?_)) h2
  rcases h' c t e with g | g
  · exact .inl g
  · exact .inr (g st h2)

def delim (d : Int) : Int :=
  if d % 8 = 0 then 44 else if d % 8 = 1 then 93 else if d % 8 = 2 then 125 else if d % 8 = 3 then 32 else if d % 8 = 4 then 9 else if d % 8 = 5 then 10 else if d % 8 = 6 then 13 else 58

theorem delim_stops (d st : Int) (h : accept st = true) : step st (delim d) < 0 := by
  have h' : st = 2 ∨ st = 3 ∨ st = 5 ∨ st = 8 := by simpa [accept, or_assoc] using h
  unfold delim
  rcases h' with rfl | rfl | rfl | rfl <;> repeat' split
  all_goals decide

end Go.Proofs.Qxb6600109a.Pl
