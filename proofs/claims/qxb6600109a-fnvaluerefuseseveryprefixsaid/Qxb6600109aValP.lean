/-
  PLAIN LAWS of 'val': its equations, case by case; that it goes forward.
-/
import Derived.Test.Qxb6600109aStrP
import Derived.Test.Qxb6600109aCut
namespace Go.Proofs.Qxb6600109a

section
variable {f d : Nat} {first : Bool} {l r : List Int} {c : Int}

theorem val0_nil (h : Pl.ws l = []) : Pl.val (f + 1) 0 first d l = none := by simp [Pl.val, h]
theorem val0_cons (h : Pl.ws l = c :: r) : Pl.val (f + 1) 0 first d l =
    if c = 34 then Pl.strB r
    else if c = 123 then (if 10000 ≤ d then none else Pl.val f 2 true (d + 1) r)
    else if c = 91 then (if 10000 ≤ d then none else Pl.val f 1 true (d + 1) r)
    else Pl.lit (c :: r) := by simp [Pl.val, h]

theorem val1_end (h : Pl.ws l = 93 :: r) : Pl.val (f + 1) 1 first d l = some r := by simp [Pl.val, h]
theorem val1_more {l1 : List Int} (h : Pl.ws l = c :: r) (hc : ¬ c = 93) (hm : Pl.comma first (c :: r) = some l1) : Pl.val (f + 1) 1 first d l = (Pl.val f 0 true d l1).bind (Pl.val f 1 false d) := by
  simp [Pl.val, h, hc, hm]
theorem val1_bad (h : Pl.ws l = [] ∨ ∃ c r, Pl.ws l = c :: r ∧ ¬ c = 93 ∧ Pl.comma first (c :: r) = none) : Pl.val (f + 1) 1 first d l = none := by
  rcases h with h | ⟨c, r, h, hc, hm⟩
  · simp [Pl.val, h]
  · simp [Pl.val, h, hc, hm]
theorem val2_end (h : Pl.ws l = 125 :: r) : Pl.val (f + 1) 2 first d l = some r := by simp [Pl.val, h]
theorem val2_more {l1 : List Int} (h : Pl.ws l = c :: r) (hc : ¬ c = 125) (hm : Pl.comma first (c :: r) = some l1) : Pl.val (f + 1) 2 first d l = (((Pl.str l1).bind (Pl.expect 58)).bind (Pl.val f 0 true d)).bind (Pl.val f 2 false d) := by
  simp [Pl.val, h, hc, hm]
theorem val2_bad (h : Pl.ws l = [] ∨ ∃ c r, Pl.ws l = c :: r ∧ ¬ c = 125 ∧ Pl.comma first (c :: r) = none) : Pl.val (f + 1) 2 first d l = none := by
  rcases h with h | ⟨c, r, h, hc, hm⟩
  · simp [Pl.val, h]
  · simp [Pl.val, h, hc, hm]
end

theorem strB_len {l r : List Int} (h : Pl.strB l = some r) : r.length < l.length := by
  obtain ⟨v, rfl, _, _⟩ := strB_split _ _ _ (Nat.le_refl _) h
  simp
  omega
theorem num_len {l r : List Int} (h : Pl.num l = some r) : r.length < l.length := by
  obtain ⟨v, rfl, hne⟩ := Pl.num_suffix h
  cases v with
  | nil => exact absurd rfl hne
  | cons _ _ => simp; omega
theorem strip_len {x : Int} {word l r : List Int} (h : Pl.strip (x :: word) l = some r) : r.length < l.length := by
  unfold Pl.strip at h
  split at h
  · rename_i e
    cases h
    have := congrArg List.length e
    simp at this ⊢
    omega
  · cases h
theorem lit_len {l r : List Int} (h : Pl.lit l = some r) : r.length < l.length := by
  cases l with
  | nil => cases h
  | cons c t =>
    rw [Pl.lit] at h
    split at h
    · exact strip_len h
    · split at h
      · exact strip_len h
      · split at h
        · exact strip_len h
        · exact num_len h
theorem str_len {l r : List Int} (h : Pl.str l = some r) : r.length < l.length := by
  have hl := ws_len l
  unfold Pl.str at h
  cases hw : Pl.ws l with
  | nil => simp [hw] at h
  | cons c t =>
    rw [hw] at h hl
    simp at h hl
    have := strB_len h.2
    omega
theorem comma_len {first : Bool} {l r : List Int} (h : Pl.comma first l = some r) : r.length ≤ l.length := by
  unfold Pl.comma at h
  cases first with
  | true => simp at h; rw [h]; exact Nat.le_refl _
  | false => simp at h; exact Nat.le_of_lt (expect_len h)

theorem val_len (f : Nat) : ∀ t first d l r, Pl.val f t first d l = some r → r.length < l.length := by
  induction f with
  | zero => intro t first d l r h; simp [Pl.val] at h
  | succ f ih =>
    intro t first d l r h
    have hl := ws_len l
    cases hw : Pl.ws l with
    | nil => match t with
      | 0 => simp [Pl.val, hw] at h
      | 1 => simp [Pl.val, hw] at h
      | _ + 2 => simp [Pl.val, hw] at h
    | cons c s =>
      rw [hw] at hl
      simp at hl
      match t with
      | 0 =>
        rw [val0_cons hw] at h
        split at h
        · have := strB_len h; omega
        · split at h
          · split at h
            · cases h
            · have := ih _ _ _ _ _ h; omega
          · split at h
            · split at h
              · cases h
              · have := ih _ _ _ _ _ h; omega
            · have := lit_len h; simp at this; omega
      | 1 =>
        by_cases hc : c = 93
        · subst hc; rw [val1_end hw] at h; cases h; omega
        · cases hm : Pl.comma first (c :: s) with
          | none => rw [val1_bad (.inr ⟨c, s, hw, hc, hm⟩)] at h; cases h
          | some l1 =>
            rw [val1_more hw hc hm] at h
            have h1 := comma_len hm
            simp at h1
            cases hv : Pl.val f 0 true d l1 with
            | none => simp [hv] at h
            | some l2 =>
              simp [hv] at h
              have := ih _ _ _ _ _ hv
              have := ih _ _ _ _ _ h
              omega
      | k + 2 =>
        have e2 : Pl.val (f + 1) (k + 2) first d l = Pl.val (f + 1) 2 first d l := by simp [Pl.val]
        rw [e2] at h
        by_cases hc : c = 125
        · subst hc; rw [val2_end hw] at h; cases h; omega
        · cases hm : Pl.comma first (c :: s) with
          | none => rw [val2_bad (.inr ⟨c, s, hw, hc, hm⟩)] at h; cases h
          | some l1 =>
            rw [val2_more hw hc hm] at h
            have h1 := comma_len hm
            simp at h1
            cases hs : Pl.str l1 with
            | none => simp [hs] at h
            | some l2 =>
              simp [hs] at h
              cases he : Pl.expect 58 l2 with
              | none => simp [he] at h
              | some l3 =>
                simp [he] at h
                cases hv : Pl.val f 0 true d l3 with
                | none => simp [hv] at h
                | some l4 =>
                  simp [hv] at h
                  have := str_len hs
                  have := expect_len he
                  have := ih _ _ _ _ _ hv
                  have := ih _ _ _ _ _ h
                  omega

end Go.Proofs.Qxb6600109a
