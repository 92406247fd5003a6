/-
  PLAIN LAWS of a string's text and of white space.
-/
import Derived.Test.Qxb6600109aStr
namespace Go.Proofs.Qxb6600109a

theorem escc_ge {d : Int} (h : Pl.escc d = true) : 32 ≤ d := by
  simp [Pl.escc] at h
  omega
theorem hex_ge {d : Int} (h : Pl.hex d = true) : 32 ≤ d := by
  simp [Pl.hex] at h
  omega

/-- A string's text, told apart: what stands ahead of the closing quote, all of it no control byte; behind the quote anything may stand. -/
theorem strB_split (n : Nat) : ∀ l r, l.length ≤ n → Pl.strB l = some r → ∃ v, l = v ++ 34 :: r ∧ (∀ c ∈ v, 32 ≤ c) ∧ ∀ r', Pl.strB (v ++ 34 :: r') = some r' := by
  induction n with
  | zero =>
    intro l r hl h
    have : l = [] := List.eq_nil_of_length_eq_zero (by omega)
    subst this
    rw [strB_nil] at h
    cases h
  | succ n ih =>
    intro l r hl h
    cases l with
    | nil => rw [strB_nil] at h; cases h
    | cons c t =>
      by_cases h34 : c = 34
      · subst h34
        rw [strB_quote] at h
        cases h
        exact ⟨[], rfl, by simp, fun r' => strB_quote r'⟩
      · by_cases h92 : c = 92
        · subst h92
          cases hes : Pl.esc t with
          | false => rw [strB_bad hes] at h; cases h
          | true =>
            cases t with
            | nil => simp [Pl.esc] at hes
            | cons d t =>
              by_cases hd : d = 117
              · subst hd
                obtain ⟨h4, e4⟩ := strB_u hes
                have hx : Pl.hex4 t = true := by simpa [Pl.esc, Pl.escc] using hes
                match t, h4, hx with
                | x :: y :: z :: u :: t, _, hx =>
                  rw [e4] at h
                  obtain ⟨v, hv, hg, hr⟩ := ih t r (by simp at hl; omega) h
                  have hx' : Pl.hex x = true ∧ Pl.hex y = true ∧ Pl.hex z = true ∧ Pl.hex u = true := by simpa [Pl.hex4, and_assoc] using hx
                  refine ⟨92 :: 117 :: x :: y :: z :: u :: v, by simp [hv], ?_, fun r' => ?_⟩
                  · intro c hc
                    simp at hc
                    rcases hc with rfl | rfl | rfl | rfl | rfl | rfl | hc
                    · omega
                    · omega
                    · exact hex_ge hx'.1
                    · exact hex_ge hx'.2.1
                    · exact hex_ge hx'.2.2.1
                    · exact hex_ge hx'.2.2.2
                    · exact hg c hc
                  · have he : Pl.esc (117 :: x :: y :: z :: u :: (v ++ 34 :: r')) = true := by simp [Pl.esc, Pl.hex4, hx']
                    have := (strB_u he).2
                    simp only [List.cons_append] at this ⊢
                    rw [this]
                    exact hr r'
              · rw [strB_one hes hd] at h
                obtain ⟨v, hv, hg, hr⟩ := ih t r (by simp at hl; omega) h
                have hcc : Pl.escc d = true := by simpa [Pl.esc, hd] using hes
                refine ⟨92 :: d :: v, by simp [hv], ?_, fun r' => ?_⟩
                · intro c hc
                  simp at hc
                  rcases hc with rfl | rfl | hc
                  · omega
                  · exact escc_ge hcc
                  · exact hg c hc
                · simp only [List.cons_append]
                  rw [strB_one (by simp [Pl.esc, hcc]) hd]
                  exact hr r'
        · by_cases hc : c < 32
          · rw [strB_ctl h34 h92 hc] at h; cases h
          · rw [strB_go h34 h92 hc] at h
            obtain ⟨v, hv, hg, hr⟩ := ih t r (by simp at hl; omega) h
            refine ⟨c :: v, by simp [hv], ?_, fun r' => ?_⟩
            · intro c' hc'
              simp at hc'
              rcases hc' with rfl | hc'
              · omega
              · exact hg c' hc'
            · simp only [List.cons_append]
              rw [strB_go h34 h92 hc]
              exact hr r'

/-- White space ahead, and what stands behind it. -/
theorem ws_split (l : List Int) : ∃ u, l = u ++ Pl.ws l ∧ ∀ c ∈ u, Pl.isWS c = true := by
  induction l with
  | nil => exact ⟨[], rfl, by simp⟩
  | cons x t ih =>
    rcases hx : Pl.isWS x with _ | _
    · exact ⟨[], by rw [ws_no hx]; rfl, by simp⟩
    · obtain ⟨u, hu, hg⟩ := ih
      refine ⟨x :: u, by rw [ws_yes hx, List.cons_append, ← hu], ?_⟩
      intro c hc
      simp at hc
      rcases hc with rfl | hc
      · exact hx
      · exact hg c hc

end Go.Proofs.Qxb6600109a
