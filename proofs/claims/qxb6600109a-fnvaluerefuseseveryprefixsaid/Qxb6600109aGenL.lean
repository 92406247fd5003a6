/-
  WHAT THE GENERATOR WRITES IS READ: 'val' reads each text of 'gen' whole.
-/
import Derived.Test.Qxb6600109aGenP
import Derived.Test.Qxb6600109aValC
namespace Go.Proofs.Qxb6600109a

/-- What no number goes on with. -/
def Delim (X : List Int) : Prop := ∀ c s, X = c :: s → ∀ st, Pl.accept st = true → Pl.step st c < 0

theorem accept_cases {st : Int} (h : Pl.accept st = true) : st = 2 ∨ st = 3 ∨ st = 5 ∨ st = 8 := by simpa [Pl.accept, or_assoc] using h
theorem delim_cons {c : Int} (h : c ∈ [44, 93, 125, 9, 32, 10, 13, 58]) (X : List Int) : Delim (c :: X) := by
  intro c' s e st ha
  cases e
  simp at h
  rcases accept_cases ha with rfl | rfl | rfl | rfl <;> rcases h with rfl | rfl | rfl | rfl | rfl | rfl | rfl | rfl <;> decide
theorem delim_nil : Delim [] := by intro c s e; cases e

section
variable {f d : Nat} {first : Bool}

theorem val_skip (t : Nat) {c : Int} {l : List Int} (h : Pl.isWS c = true) : Pl.val f t first d (c :: l) = Pl.val f t first d l := by
  cases f with
  | zero => simp [Pl.val]
  | succ f =>
    match t with
    | 0 => simp [Pl.val, ws_yes h]
    | 1 => simp [Pl.val, ws_yes h]
    | _ + 2 => simp [Pl.val, ws_yes h]
theorem val_opt (t : Nat) (x : Bool) (u l : List Int) (h : ∀ c ∈ u, Pl.isWS c = true) : Pl.val f t first d (Pl.opt x u ++ l) = Pl.val f t first d l := by
  unfold Pl.opt
  cases x with
  | false => rfl
  | true =>
    simp only [if_true]
    induction u with
    | nil => rfl
    | cons c u ih => rw [List.cons_append, val_skip t (h c (by simp)), ih (fun c' hc' => h c' (by simp [hc']))]

theorem val_num {t X : List Int} {c : Int} {s : List Int} (ht : t = c :: s) (hw : Pl.isWS c = false) (h1 : ¬ c = 34) (h2 : ¬ c = 123) (h3 : ¬ c = 91) (h4 : ¬ c = 116) (h5 : ¬ c = 102) (h6 : ¬ c = 110) (hn : Pl.num t = some []) (hX : Delim X) :
    Pl.val (f + 1) 0 first d (t ++ X) = some X := by
  have hnum : Pl.num (t ++ X) = some X := Pl.num_cut (v := t) (r := []) (by simpa using hn) (fun c s e => .inr (hX c s e))
  subst ht
  rw [val0_cons (c := c) (r := s ++ X) (by rw [List.cons_append, ws_no hw]), if_neg h1, if_neg h2, if_neg h3, Pl.lit, if_neg h4, if_neg h5, if_neg h6]
  exact hnum

theorem numText_reads (k : Int) {X : List Int} (hX : Delim X) : Pl.val (f + 1) 0 first d (Pl.numText k ++ X) = some X := by
  rcases (show k % 8 = 0 ∨ k % 8 = 1 ∨ k % 8 = 2 ∨ k % 8 = 3 ∨ k % 8 = 4 ∨ k % 8 = 5 ∨ k % 8 = 6 ∨ k % 8 = 7 from by omega) with h | h | h | h | h | h | h | h
  all_goals
    simp only [Pl.numText, h]
    exact val_num rfl (by decide) (by decide) (by decide) (by decide) (by decide) (by decide) (by decide) (by decide) hX

theorem strB_text {body : List Int} (h : Pl.strB body = some []) (X : List Int) : Pl.strB (body ++ X) = some X := by
  obtain ⟨v, e, _, hr⟩ := strB_split _ _ _ (Nat.le_refl _) h
  rw [e]
  have := hr X
  simpa using this

theorem strText_body (k : Int) : ∃ body, Pl.strText k = 34 :: body ∧ Pl.strB body = some [] := by
  rcases (show k % 4 = 0 ∨ k % 4 = 1 ∨ k % 4 = 2 ∨ k % 4 = 3 from by omega) with h | h | h | h
  all_goals
    simp only [Pl.strText, h]
    exact ⟨_, rfl, by decide⟩

theorem strText_reads (k : Int) (X : List Int) : Pl.val (f + 1) 0 first d (Pl.strText k ++ X) = some X := by
  obtain ⟨body, e, hb⟩ := strText_body k
  rw [e, List.cons_append, val0_cons (ws_no (by decide)), if_pos rfl, strB_text hb]
theorem strText_str (k : Int) (X : List Int) : Pl.str (Pl.strText k ++ X) = some X := by
  obtain ⟨body, e, hb⟩ := strText_body k
  rw [e, List.cons_append, Pl.str, ws_no (by decide)]
  simp [strB_text hb]

theorem strip_self (word X : List Int) : Pl.strip word (word ++ X) = some X := by
  unfold Pl.strip
  rw [List.take_left, if_pos rfl, List.drop_left]

theorem true_reads (X : List Int) : Pl.val (f + 1) 0 first d ([116, 114, 117, 101] ++ X) = some X := by
  rw [List.cons_append, val0_cons (ws_no (by decide)), if_neg (by decide), if_neg (by decide), if_neg (by decide), Pl.lit, if_pos rfl]
  exact strip_self [116, 114, 117, 101] X
theorem false_reads (X : List Int) : Pl.val (f + 1) 0 first d ([102, 97, 108, 115, 101] ++ X) = some X := by
  rw [List.cons_append, val0_cons (ws_no (by decide)), if_neg (by decide), if_neg (by decide), if_neg (by decide), Pl.lit, if_neg (by decide), if_pos rfl]
  exact strip_self [102, 97, 108, 115, 101] X
theorem null_reads (X : List Int) : Pl.val (f + 1) 0 first d (Pl.nullT ++ X) = some X := by
  rw [Pl.nullT, List.cons_append, val0_cons (ws_no (by decide)), if_neg (by decide), if_neg (by decide), if_neg (by decide), Pl.lit, if_neg (by decide), if_neg (by decide), if_pos rfl]
  exact strip_self [110, 117, 108, 108] X
theorem litText_reads (k : Int) (X : List Int) : Pl.val (f + 1) 0 first d (Pl.litText k ++ X) = some X := by
  unfold Pl.litText
  split
  · exact true_reads X
  · split
    · exact false_reads X
    · exact null_reads X

theorem expect_skip (u : List Int) (x : Bool) (c : Int) (X : List Int) (h : ∀ c ∈ u, Pl.isWS c = true) (hc : Pl.isWS c = false) : Pl.expect c (Pl.opt x u ++ c :: X) = some X := by
  have e : Pl.ws (Pl.opt x u ++ c :: X) = c :: X := by
    rw [ws_app _ _ (by unfold Pl.opt; cases x <;> simp; exact h), ws_no hc]
  rw [Pl.expect, e]
  simp
end

/-- The first byte of a text of 'gen'. -/
theorem gen_head (k : Nat) (l : List Int) : ∃ c s, (Pl.gen k l).1 = c :: s ∧ Pl.isWS c = false ∧ ¬ c = 93 ∧ ¬ c = 125 ∧ ¬ c = 44 := by
  have hnull : ∃ c s, Pl.nullT = c :: s ∧ Pl.isWS c = false ∧ ¬ c = 93 ∧ ¬ c = 125 ∧ ¬ c = 44 := ⟨110, _, rfl, by decide, by decide, by decide, by decide⟩
  cases k with
  | zero => exact hnull
  | succ k =>
    cases l with
    | nil => exact hnull
    | cons op r =>
      rw [Pl.gen]
      split
      · show ∃ c s, Pl.numText (op / 8) = c :: s ∧ _
        rcases (show op / 8 % 8 = 0 ∨ op / 8 % 8 = 1 ∨ op / 8 % 8 = 2 ∨ op / 8 % 8 = 3 ∨ op / 8 % 8 = 4 ∨ op / 8 % 8 = 5 ∨ op / 8 % 8 = 6 ∨ op / 8 % 8 = 7 from by omega) with h | h | h | h | h | h | h | h
        all_goals
          simp only [Pl.numText, h]
          exact ⟨_, _, rfl, by decide, by decide, by decide, by decide⟩
      · split
        · show ∃ c s, Pl.strText (op / 8) = c :: s ∧ _
          obtain ⟨body, e, _⟩ := strText_body (op / 8)
          exact ⟨34, body, e, by decide, by decide, by decide, by decide⟩
        · split
          · show ∃ c s, Pl.litText (op / 8) = c :: s ∧ _
            unfold Pl.litText
            split
            · exact ⟨_, _, rfl, by decide, by decide, by decide, by decide⟩
            · split
              · exact ⟨_, _, rfl, by decide, by decide, by decide, by decide⟩
              · exact ⟨_, _, rfl, by decide, by decide, by decide, by decide⟩
          · split
            · exact ⟨91, _, rfl, by decide, by decide, by decide, by decide⟩
            · exact ⟨123, _, rfl, by decide, by decide, by decide, by decide⟩

/-- 'k levels down, what is written is read whole', from some fuel on. -/
def Reads (k : Nat) : Prop := ∀ l d X, d + k ≤ 9000 → Delim X → ∃ f0, ∀ f, f0 ≤ f → Pl.val f 0 true d ((Pl.gen k l).1 ++ X) = some X

theorem kidsA_reads {k : Nat} (hk : Reads k) (sel : Int) (r : List Int) (j : Nat) : ∀ d X, d + k ≤ 9000 → (0 < j → Delim X) →
    ∃ f0, ∀ f, f0 ≤ f → Pl.val (f + j) 1 true d ((Pl.kids (Pl.gen k) (Pl.sepA sel) r j).1 ++ X) = Pl.val f 1 (j == 0) d X := by
  induction j with
  | zero => intro d X _ _; exact ⟨0, fun f _ => rfl⟩
  | succ j ih =>
    intro d X hd hX
    obtain ⟨c, s, ec, hws, h93, _, _⟩ := gen_head k (Pl.kids (Pl.gen k) (Pl.sepA sel) r j).2
    obtain ⟨f1, hf1⟩ := hk (Pl.kids (Pl.gen k) (Pl.sepA sel) r j).2 d X hd (hX (by omega))
    obtain ⟨f0, hf0⟩ := ih d (Pl.sepA sel j ++ ((Pl.gen k (Pl.kids (Pl.gen k) (Pl.sepA sel) r j).2).1 ++ X)) hd (fun hj => by
      rw [Pl.sepA, if_neg (by omega), List.cons_append]
      exact delim_cons (by simp) _)
    refine ⟨f0 + f1, fun f hf => ?_⟩
    have e1 : f + (j + 1) = f + 1 + j := by omega
    have e2 : (Pl.kids (Pl.gen k) (Pl.sepA sel) r (j + 1)).1 ++ X = (Pl.kids (Pl.gen k) (Pl.sepA sel) r j).1 ++ (Pl.sepA sel j ++ ((Pl.gen k (Pl.kids (Pl.gen k) (Pl.sepA sel) r j).2).1 ++ X)) := by simp [Pl.kids]
    rw [e1, e2, hf0 (f + 1) (by omega)]
    have e3 : ((j + 1) == 0) = false := by simp
    rw [e3]
    have hv := hf1 f (by omega)
    by_cases hj : j = 0
    · subst hj
      rw [Pl.sepA, if_pos rfl, List.nil_append]
      rw [ec, List.cons_append] at hv ⊢
      rw [val1_more (first := (0 == 0)) (ws_no hws) h93 rfl, hv]
      rfl
    · rw [Pl.sepA, if_neg hj, List.cons_append, show (j == 0) = false from by simp [hj]]
      rw [val1_more (first := false) (c := 44) (ws_no (by decide)) (by decide) (l1 := Pl.opt (Pl.bit 8 sel) [10] ++ ((Pl.gen k (Pl.kids (Pl.gen k) (Pl.sepA sel) r j).2).1 ++ X)) (by simp [Pl.comma, Pl.expect, ws_no (show Pl.isWS 44 = false by decide)])]
      rw [val_opt 0 _ _ _ (by simp; decide), hv]
      rfl

theorem kidsO_reads {k : Nat} (hk : Reads k) (sel : Int) (r : List Int) (j : Nat) : ∀ d X, d + k ≤ 9000 → (0 < j → Delim X) →
    ∃ f0, ∀ f, f0 ≤ f → Pl.val (f + j) 2 true d ((Pl.kids (Pl.gen k) (Pl.sepO sel) r j).1 ++ X) = Pl.val f 2 (j == 0) d X := by
  induction j with
  | zero => intro d X _ _; exact ⟨0, fun f _ => rfl⟩
  | succ j ih =>
    intro d X hd hX
    obtain ⟨f1, hf1⟩ := hk (Pl.kids (Pl.gen k) (Pl.sepO sel) r j).2 d X hd (hX (by omega))
    obtain ⟨f0, hf0⟩ := ih d (Pl.sepO sel j ++ ((Pl.gen k (Pl.kids (Pl.gen k) (Pl.sepO sel) r j).2).1 ++ X)) hd (fun hj => by
      rw [Pl.sepO, Pl.opt, if_pos (by simpa using hj), List.append_assoc, List.cons_append]
      exact delim_cons (by simp) _)
    refine ⟨f0 + f1, fun f hf => ?_⟩
    have e1 : f + (j + 1) = f + 1 + j := by omega
    have e2 : (Pl.kids (Pl.gen k) (Pl.sepO sel) r (j + 1)).1 ++ X = (Pl.kids (Pl.gen k) (Pl.sepO sel) r j).1 ++ (Pl.sepO sel j ++ ((Pl.gen k (Pl.kids (Pl.gen k) (Pl.sepO sel) r j).2).1 ++ X)) := by simp [Pl.kids]
    rw [e1, e2, hf0 (f + 1) (by omega)]
    have e3 : ((j + 1) == 0) = false := by simp
    rw [e3]
    have hv := hf1 f (by omega)
    generalize (Pl.gen k (Pl.kids (Pl.gen k) (Pl.sepO sel) r j).2).1 = T at *
    obtain ⟨body, eb, _⟩ := strText_body (sel + (j : Int))
    have hstr := strText_str (sel + (j : Int)) (Pl.opt (Pl.bit 8 sel) [32] ++ 58 :: (Pl.opt (Pl.bit 16 sel) [9] ++ (T ++ X)))
    have hexp := expect_skip [32] (Pl.bit 8 sel) 58 (Pl.opt (Pl.bit 16 sel) [9] ++ (T ++ X)) (by simp; decide) (by decide)
    have hval := val_opt (f := f) (first := true) (d := d) 0 (Pl.bit 16 sel) [9] (T ++ X) (by simp; decide)
    have ex : Pl.sepO sel j ++ (T ++ X) = Pl.opt (decide (0 < j)) [44] ++ (Pl.strText (sel + (j : Int)) ++ (Pl.opt (Pl.bit 8 sel) [32] ++ 58 :: (Pl.opt (Pl.bit 16 sel) [9] ++ (T ++ X)))) := by simp [Pl.sepO]
    rw [ex]
    by_cases hj : j = 0
    · subst hj
      have eo : Pl.opt (decide (0 < 0)) [44] = [] := rfl
      rw [eo, List.nil_append]
      have hw : Pl.ws (Pl.strText (sel + ((0 : Nat) : Int)) ++ (Pl.opt (Pl.bit 8 sel) [32] ++ 58 :: (Pl.opt (Pl.bit 16 sel) [9] ++ (T ++ X)))) = 34 :: (body ++ (Pl.opt (Pl.bit 8 sel) [32] ++ 58 :: (Pl.opt (Pl.bit 16 sel) [9] ++ (T ++ X)))) := by
        rw [eb, List.cons_append, ws_no (by decide)]
      rw [val2_more (first := (0 == 0)) hw (by decide) rfl, ← List.cons_append, ← eb, hstr]
      simp only [Option.bind_some]
      rw [hexp]
      simp only [Option.bind_some]
      rw [hval, hv]
      rfl
    · have eo : Pl.opt (decide (0 < j)) [44] = [44] := by simp [Pl.opt]; omega
      rw [eo, show (j == 0) = false from by simp [hj]]
      have hw : Pl.ws ([44] ++ (Pl.strText (sel + (j : Int)) ++ (Pl.opt (Pl.bit 8 sel) [32] ++ 58 :: (Pl.opt (Pl.bit 16 sel) [9] ++ (T ++ X))))) = 44 :: (Pl.strText (sel + (j : Int)) ++ (Pl.opt (Pl.bit 8 sel) [32] ++ 58 :: (Pl.opt (Pl.bit 16 sel) [9] ++ (T ++ X)))) := ws_no (by decide)
      rw [val2_more (first := false) hw (by decide) (l1 := Pl.strText (sel + (j : Int)) ++ (Pl.opt (Pl.bit 8 sel) [32] ++ 58 :: (Pl.opt (Pl.bit 16 sel) [9] ++ (T ++ X)))) (by simp [Pl.comma, Pl.expect, ws_no (show Pl.isWS 44 = false by decide)]), hstr]
      simp only [Option.bind_some]
      rw [hexp]
      simp only [Option.bind_some]
      rw [hval, hv]
      rfl

theorem gen_reads (k : Nat) : Reads k := by
  induction k with
  | zero => intro l d X _ _; exact ⟨1, fun f hf => by obtain ⟨g, rfl⟩ : ∃ g, f = g + 1 := ⟨f - 1, by omega⟩; exact null_reads X⟩
  | succ k ih =>
    intro l d X hd hX
    cases l with
    | nil => exact ⟨1, fun f hf => by obtain ⟨g, rfl⟩ : ∃ g, f = g + 1 := ⟨f - 1, by omega⟩; exact null_reads X⟩
    | cons op r =>
      rw [Pl.gen]
      split
      · exact ⟨1, fun f hf => by obtain ⟨g, rfl⟩ : ∃ g, f = g + 1 := ⟨f - 1, by omega⟩; exact numText_reads _ hX⟩
      · split
        · exact ⟨1, fun f hf => by obtain ⟨g, rfl⟩ : ∃ g, f = g + 1 := ⟨f - 1, by omega⟩; exact strText_reads _ X⟩
        · split
          · exact ⟨1, fun f hf => by obtain ⟨g, rfl⟩ : ∃ g, f = g + 1 := ⟨f - 1, by omega⟩; exact litText_reads _ X⟩
          · generalize (op / 8 % 4).toNat = cnt
            split
            · obtain ⟨f0, hf0⟩ := kidsA_reads ih (op / 8) r cnt (d + 1) (Pl.opt (Pl.bit 16 (op / 8)) [9] ++ 93 :: X) (by omega) (fun _ => by
                unfold Pl.opt
                split
                · exact delim_cons (by simp) _
                · exact delim_cons (by simp) _)
              refine ⟨f0 + cnt + 2, fun f hf => ?_⟩
              obtain ⟨g, rfl⟩ : ∃ g, f = g + 1 + cnt + 1 := ⟨f - cnt - 2, by omega⟩
              have e : 91 :: Pl.opt (Pl.bit 4 (op / 8)) [32] ++ ((Pl.kids (Pl.gen k) (Pl.sepA (op / 8)) r cnt).1 ++ (Pl.opt (Pl.bit 16 (op / 8)) [9] ++ [93])) ++ X = 91 :: (Pl.opt (Pl.bit 4 (op / 8)) [32] ++ ((Pl.kids (Pl.gen k) (Pl.sepA (op / 8)) r cnt).1 ++ (Pl.opt (Pl.bit 16 (op / 8)) [9] ++ 93 :: X))) := by simp
              show Pl.val _ 0 true d (91 :: Pl.opt (Pl.bit 4 (op / 8)) [32] ++ ((Pl.kids (Pl.gen k) (Pl.sepA (op / 8)) r cnt).1 ++ (Pl.opt (Pl.bit 16 (op / 8)) [9] ++ [93])) ++ X) = some X
              rw [e, val0_cons (ws_no (by decide)), if_neg (by decide), if_neg (by decide), if_pos rfl, if_neg (by omega), val_opt 1 _ _ _ (by simp; decide), hf0 (g + 1) (by omega), val_opt 1 _ _ _ (by simp; decide), val1_end (ws_no (by decide))]
            · obtain ⟨f0, hf0⟩ := kidsO_reads ih (op / 8) r cnt (d + 1) (125 :: X) (by omega) (fun _ => delim_cons (by simp) _)
              refine ⟨f0 + cnt + 2, fun f hf => ?_⟩
              obtain ⟨g, rfl⟩ : ∃ g, f = g + 1 + cnt + 1 := ⟨f - cnt - 2, by omega⟩
              have e : 123 :: Pl.opt (Pl.bit 4 (op / 8)) [13, 10] ++ ((Pl.kids (Pl.gen k) (Pl.sepO (op / 8)) r cnt).1 ++ [125]) ++ X = 123 :: (Pl.opt (Pl.bit 4 (op / 8)) [13, 10] ++ ((Pl.kids (Pl.gen k) (Pl.sepO (op / 8)) r cnt).1 ++ 125 :: X)) := by simp
              show Pl.val _ 0 true d (123 :: Pl.opt (Pl.bit 4 (op / 8)) [13, 10] ++ ((Pl.kids (Pl.gen k) (Pl.sepO (op / 8)) r cnt).1 ++ [125]) ++ X) = some X
              rw [e, val0_cons (ws_no (by decide)), if_neg (by decide), if_pos rfl, if_neg (by omega), val_opt 2 _ _ _ (by simp; decide), hf0 (g + 1) (by omega), val2_end (ws_no (by decide))]

end Go.Proofs.Qxb6600109a
