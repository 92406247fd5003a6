/-
  A VALUE's TEXT, cut out: what 'val' read is read again ahead of whatever may stand behind it.
-/
import Derived.Test.Qxb6600109aValP
namespace Go.Proofs.Qxb6600109a

/-- Behind a value: nothing, or what begins as that which stood there. -/
def Like (r r' : List Int) : Prop := ∀ c s, r' = c :: s → r.head? = some c

theorem like_app {v x y : List Int} (h : v ≠ []) : Like (v ++ x) (v ++ y) := by
  intro c s e
  cases v with
  | nil => exact absurd rfl h
  | cons a t => simp at e; simp [e.1]
theorem like_nil (r : List Int) : Like r [] := by intro c s e; cases e

theorem ws_app (u x : List Int) (h : ∀ c ∈ u, Pl.isWS c = true) : Pl.ws (u ++ x) = Pl.ws x := by
  induction u with
  | nil => rfl
  | cons c t ih => rw [List.cons_append, ws_yes (h c (by simp)), ih (fun c' hc' => h c' (by simp [hc']))]

/-- White space, then a byte that is none. -/
theorem ws_cut {l s : List Int} {c : Int} (h : Pl.ws l = c :: s) : ∃ u, l = u ++ c :: s ∧ Pl.isWS c = false ∧ ∀ x, Pl.ws (u ++ c :: x) = c :: x := by
  obtain ⟨u, hu, hg⟩ := ws_split l
  have hc := ws_stop l c s h
  refine ⟨u, by rw [← h]; exact hu, hc, fun x => ?_⟩
  rw [ws_app u _ hg, ws_no hc]

theorem strip_cut {x : Int} {word l r : List Int} (h : Pl.strip (x :: word) l = some r) : l = (x :: word) ++ r ∧ ∀ r', Pl.strip (x :: word) ((x :: word) ++ r') = some r' := by
  unfold Pl.strip at h
  split at h
  · rename_i e
    cases h
    refine ⟨?_, fun r' => ?_⟩
    · exact (by rw [← e, List.length_take]; simp : l = l.take (x :: word).length ++ l.drop (x :: word).length).trans (by rw [e])
    · unfold Pl.strip
      rw [List.take_left, if_pos rfl, List.drop_left]
  · cases h

theorem lit_cut {l r : List Int} (h : Pl.lit l = some r) : ∃ v, v ≠ [] ∧ l = v ++ r ∧ ∀ r', Like r r' → Pl.lit (v ++ r') = some r' := by
  cases l with
  | nil => cases h
  | cons c t =>
    by_cases h1 : c = 116
    · subst h1
      have e : Pl.strip [116, 114, 117, 101] (116 :: t) = some r := h
      obtain ⟨e1, e2⟩ := strip_cut e
      exact ⟨_, by simp, e1, fun r' _ => e2 r'⟩
    · by_cases h2 : c = 102
      · subst h2
        have e : Pl.strip [102, 97, 108, 115, 101] (102 :: t) = some r := h
        obtain ⟨e1, e2⟩ := strip_cut e
        exact ⟨_, by simp, e1, fun r' _ => e2 r'⟩
      · by_cases h3 : c = 110
        · subst h3
          have e : Pl.strip [110, 117, 108, 108] (110 :: t) = some r := h
          obtain ⟨e1, e2⟩ := strip_cut e
          exact ⟨_, by simp, e1, fun r' _ => e2 r'⟩
        · rw [Pl.lit, if_neg h1, if_neg h2, if_neg h3] at h
          obtain ⟨v, hv, hne⟩ := Pl.num_suffix h
          refine ⟨v, hne, hv, fun r' hr => ?_⟩
          rw [hv] at h
          have hn := Pl.num_cut (r' := r') h (fun c s e => .inl (hr c s e))
          cases v with
          | nil => exact absurd rfl hne
          | cons x v =>
            simp at hv
            rw [List.cons_append] at hn ⊢
            rw [Pl.lit, if_neg (by omega), if_neg (by omega), if_neg (by omega)]
            exact hn

theorem str_cut {l r : List Int} (h : Pl.str l = some r) : ∃ v, v ≠ [] ∧ l = v ++ r ∧ ∀ r', Pl.str (v ++ r') = some r' := by
  unfold Pl.str at h
  cases hw : Pl.ws l with
  | nil => simp [hw] at h
  | cons c s =>
    rw [hw] at h
    simp at h
    obtain ⟨rfl, h⟩ := h
    obtain ⟨u, hu, _, hx⟩ := ws_cut hw
    obtain ⟨v, hv, _, hr⟩ := strB_split _ _ _ (Nat.le_refl _) h
    refine ⟨u ++ 34 :: (v ++ [34]), by simp, by rw [hu, hv]; simp, fun r' => ?_⟩
    have e : u ++ 34 :: (v ++ [34]) ++ r' = u ++ 34 :: (v ++ 34 :: r') := by simp
    rw [Pl.str, e, hx]
    simp [hr]

theorem expect_cut {x : Int} {l r : List Int} (h : Pl.expect x l = some r) : ∃ v, v ≠ [] ∧ l = v ++ r ∧ ∀ r', Pl.expect x (v ++ r') = some r' := by
  unfold Pl.expect at h
  cases hw : Pl.ws l with
  | nil => simp [hw] at h
  | cons c s =>
    rw [hw] at h
    simp at h
    obtain ⟨rfl, rfl⟩ := h
    obtain ⟨u, hu, _, hx⟩ := ws_cut hw
    refine ⟨u ++ [c], by simp, by rw [hu]; simp, fun r' => ?_⟩
    have e : u ++ [c] ++ r' = u ++ c :: r' := by simp
    rw [Pl.expect, e, hx]
    simp

theorem comma_cut {first : Bool} {c : Int} {s l1 : List Int} (hc : Pl.isWS c = false) (h : Pl.comma first (c :: s) = some l1) : (first = true ∧ l1 = c :: s) ∨ (first = false ∧ c = 44 ∧ l1 = s) := by
  unfold Pl.comma at h
  cases first with
  | true => simp at h; exact .inl ⟨rfl, h.symm⟩
  | false =>
    simp [Pl.expect, ws_no hc] at h
    exact .inr ⟨rfl, h.1, h.2.symm⟩

theorem ne_nil_of_len {v r l : List Int} (h : l = v ++ r) (hl : r.length < l.length) : v ≠ [] := by
  intro e
  subst e
  rw [h] at hl
  simp at hl

/-- What stands ahead of an element: white space, and the comma where one is due; and that it is read again. -/
theorem ahead_cut {first : Bool} {c : Int} {l s l1 v1 l2 : List Int} (h : Pl.ws l = c :: s) (hm : Pl.comma first (c :: s) = some l1) (h1 : l1 = v1 ++ l2) (hne : v1 ≠ []) :
    ∃ u, l = u ++ v1 ++ l2 ∧ ∀ x, ∃ s', Pl.ws (u ++ v1 ++ x) = c :: s' ∧ Pl.comma first (c :: s') = some (v1 ++ x) := by
  obtain ⟨u, hu, hc, hx⟩ := ws_cut h
  rcases comma_cut hc hm with ⟨rfl, e⟩ | ⟨rfl, rfl, e⟩
  · cases v1 with
    | nil => exact absurd rfl hne
    | cons y v =>
      rw [h1] at e
      simp at e
      obtain ⟨rfl, e⟩ := e
      refine ⟨u, by rw [hu, ← e]; simp, fun x => ⟨v ++ x, ?_, ?_⟩⟩
      · have := hx (v ++ x)
        simpa using this
      · simp [Pl.comma]
  · refine ⟨u ++ [44], by rw [hu, ← e, h1]; simp, fun x => ⟨v1 ++ x, ?_, ?_⟩⟩
    · have := hx (v1 ++ x)
      simpa using this
    · simp [Pl.comma, Pl.expect, ws_no hc]

theorem val_cut (f : Nat) : ∀ t first d l r, Pl.val f t first d l = some r → ∃ v, l = v ++ r ∧ ∀ r', (t = 0 → Like r r') → Pl.val f t first d (v ++ r') = some r' := by
  induction f with
  | zero => intro t first d l r h; simp [Pl.val] at h
  | succ f ih =>
    intro t first d l r h
    cases hw : Pl.ws l with
    | nil => match t with
      | 0 => simp [Pl.val, hw] at h
      | 1 => simp [Pl.val, hw] at h
      | _ + 2 => simp [Pl.val, hw] at h
    | cons c s =>
      obtain ⟨u, hu, hc, hx⟩ := ws_cut hw
      match t with
      | 0 =>
        rw [val0_cons hw] at h
        by_cases h34 : c = 34
        · subst h34
          rw [if_pos rfl] at h
          obtain ⟨v, hv, _, hr⟩ := strB_split _ _ _ (Nat.le_refl _) h
          refine ⟨u ++ 34 :: (v ++ [34]), by rw [hu, hv]; simp, fun r' _ => ?_⟩
          have e : u ++ 34 :: (v ++ [34]) ++ r' = u ++ 34 :: (v ++ 34 :: r') := by simp
          rw [e, val0_cons (hx _), if_pos rfl, hr]
        · rw [if_neg h34] at h
          by_cases h123 : c = 123
          · subst h123
            rw [if_pos rfl] at h
            by_cases hd : 10000 ≤ d
            · rw [if_pos hd] at h; cases h
            · rw [if_neg hd] at h
              obtain ⟨v, hv, hr⟩ := ih _ _ _ _ _ h
              refine ⟨u ++ 123 :: v, by rw [hu, hv]; simp, fun r' _ => ?_⟩
              have e : u ++ 123 :: v ++ r' = u ++ 123 :: (v ++ r') := by simp
              rw [e, val0_cons (hx _), if_neg (by decide), if_pos rfl, if_neg hd]
              exact hr r' (fun e => by cases e)
          · rw [if_neg h123] at h
            by_cases h91 : c = 91
            · subst h91
              rw [if_pos rfl] at h
              by_cases hd : 10000 ≤ d
              · rw [if_pos hd] at h; cases h
              · rw [if_neg hd] at h
                obtain ⟨v, hv, hr⟩ := ih _ _ _ _ _ h
                refine ⟨u ++ 91 :: v, by rw [hu, hv]; simp, fun r' _ => ?_⟩
                have e : u ++ 91 :: v ++ r' = u ++ 91 :: (v ++ r') := by simp
                rw [e, val0_cons (hx _), if_neg (by decide), if_neg (by decide), if_pos rfl, if_neg hd]
                exact hr r' (fun e => by cases e)
            · rw [if_neg h91] at h
              obtain ⟨v, hne, hv, hr⟩ := lit_cut h
              cases v with
              | nil => exact absurd rfl hne
              | cons y v =>
                simp at hv
                obtain ⟨rfl, hv⟩ := hv
                refine ⟨u ++ c :: v, by rw [hu, hv]; simp, fun r' hl => ?_⟩
                have e : u ++ c :: v ++ r' = u ++ c :: (v ++ r') := by simp
                rw [e, val0_cons (hx _), if_neg h34, if_neg h123, if_neg h91]
                exact hr r' (hl rfl)
      | 1 =>
        by_cases h93 : c = 93
        · subst h93
          rw [val1_end hw] at h
          cases h
          refine ⟨u ++ [93], by rw [hu]; simp, fun r' _ => ?_⟩
          have e : u ++ [93] ++ r' = u ++ 93 :: r' := by simp
          rw [e, val1_end (hx _)]
        · cases hm : Pl.comma first (c :: s) with
          | none => rw [val1_bad (.inr ⟨c, s, hw, h93, hm⟩)] at h; cases h
          | some l1 =>
            rw [val1_more hw h93 hm] at h
            cases hv : Pl.val f 0 true d l1 with
            | none => simp [hv] at h
            | some l2 =>
              simp [hv] at h
              obtain ⟨v1, e1, r1⟩ := ih _ _ _ _ _ hv
              obtain ⟨v2, e2, r2⟩ := ih _ _ _ _ _ h
              have n1 := ne_nil_of_len e1 (val_len _ _ _ _ _ _ hv)
              have n2 := ne_nil_of_len e2 (val_len _ _ _ _ _ _ h)
              obtain ⟨u', hu', hx'⟩ := ahead_cut hw hm e1 n1
              refine ⟨u' ++ v1 ++ v2, by rw [hu', e2]; simp, fun r' _ => ?_⟩
              obtain ⟨s', g1, g2⟩ := hx' (v2 ++ r')
              have e : u' ++ v1 ++ v2 ++ r' = u' ++ v1 ++ (v2 ++ r') := by simp
              rw [e, val1_more g1 h93 g2, r1 (v2 ++ r') (fun _ => by rw [e2]; exact like_app n2)]
              exact r2 r' (fun e => by cases e)
      | k + 2 =>
        have e2' : ∀ m, Pl.val (f + 1) (k + 2) first d m = Pl.val (f + 1) 2 first d m := fun m => by simp [Pl.val]
        rw [e2'] at h
        by_cases h125 : c = 125
        · subst h125
          rw [val2_end hw] at h
          cases h
          refine ⟨u ++ [125], by rw [hu]; simp, fun r' _ => ?_⟩
          have e : u ++ [125] ++ r' = u ++ 125 :: r' := by simp
          rw [e2', e, val2_end (hx _)]
        · cases hm : Pl.comma first (c :: s) with
          | none => rw [val2_bad (.inr ⟨c, s, hw, h125, hm⟩)] at h; cases h
          | some l1 =>
            rw [val2_more hw h125 hm] at h
            cases hs : Pl.str l1 with
            | none => simp [hs] at h
            | some l2 =>
              simp [hs] at h
              cases he : Pl.expect 58 l2 with
              | none => simp [he] at h
              | some l3 =>
                simp [he] at h
                cases hv : Pl.val f 0 true d l3 with
                | none => simp [hv] at h
                | some l4 =>
                  simp [hv] at h
                  obtain ⟨v1, n1, e1, r1⟩ := str_cut hs
                  obtain ⟨v2, n2, e2, r2⟩ := expect_cut he
                  obtain ⟨v3, e3, r3⟩ := ih _ _ _ _ _ hv
                  obtain ⟨v4, e4, r4⟩ := ih _ _ _ _ _ h
                  have n4 := ne_nil_of_len e4 (val_len _ _ _ _ _ _ h)
                  obtain ⟨u', hu', hx'⟩ := ahead_cut hw hm e1 n1
                  refine ⟨u' ++ v1 ++ v2 ++ v3 ++ v4, by rw [hu', e2, e3, e4]; simp, fun r' _ => ?_⟩
                  obtain ⟨s', g1, g2⟩ := hx' (v2 ++ (v3 ++ (v4 ++ r')))
                  have e : u' ++ v1 ++ v2 ++ v3 ++ v4 ++ r' = u' ++ v1 ++ (v2 ++ (v3 ++ (v4 ++ r'))) := by simp
                  rw [e2', e, val2_more g1 h125 g2, r1]
                  simp only [Option.bind_some]
                  rw [r2]
                  simp only [Option.bind_some]
                  rw [r3 (v4 ++ r') (fun _ => by rw [e4]; exact like_app n4)]
                  simp only [Option.bind_some]
                  have e5 := r4 r' (fun e => by cases e)
                  exact e5

end Go.Proofs.Qxb6600109a
