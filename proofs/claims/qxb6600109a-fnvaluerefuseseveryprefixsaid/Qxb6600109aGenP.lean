/-
  THE GENERATOR of JSON texts, in plain terms; how long its texts are; what it leaves of the ops.
-/
namespace Go.Proofs.Qxb6600109a.Pl

def nullT : List Int := [110, 117, 108, 108]
def numText (k : Int) : List Int :=
  if k % 8 = 0 then [48] else if k % 8 = 1 then [45, 55] else if k % 8 = 2 then [49, 50, 46, 53] else if k % 8 = 3 then [51, 101, 45, 50]
  else if k % 8 = 4 then [45, 48, 46, 48, 69, 43, 49, 48] else if k % 8 = 5 then [52, 50] else if k % 8 = 6 then [49, 69, 53] else [57, 46, 55, 53, 101, 51]
def strText (k : Int) : List Int :=
  if k % 4 = 0 then [34, 34] else if k % 4 = 1 then [34, 97, 98, 34] else if k % 4 = 2 then [34, 113, 92, 34, 120, 92, 92, 121, 34]
  else [34, 92, 117, 48, 48, 101, 57, 92, 110, 92, 47, 32, 122, 34]
def litText (k : Int) : List Int :=
  if k % 3 = 0 then [116, 114, 117, 101] else if k % 3 = 1 then [102, 97, 108, 115, 101] else [110, 117, 108, 108]

def bit (b sel : Int) : Bool := sel / b % 2 == 1
def opt (x : Bool) (l : List Int) : List Int := if x then l else []

/-- Ahead of the j-th element of an array, of the j-th member's value of an object. -/
def sepA (sel : Int) (j : Nat) : List Int := if j = 0 then [] else 44 :: opt (bit 8 sel) [10]
def sepO (sel : Int) (j : Nat) : List Int := opt (decide (0 < j)) [44] ++ (strText (sel + j) ++ (opt (bit 8 sel) [32] ++ 58 :: opt (bit 16 sel) [9]))

/-- The first j children: their text, and what they leave of the ops. -/
def kids (g : List Int → List Int × List Int) (sep : Nat → List Int) (r : List Int) : Nat → List Int × List Int
  | 0 => ([], r)
  | j + 1 => ((kids g sep r j).1 ++ (sep j ++ (g (kids g sep r j).2).1), (g (kids g sep r j).2).2)

def gen : Nat → List Int → List Int × List Int
  | 0, l => (nullT, l)
  | _ + 1, [] => (nullT, [])
  | k + 1, op :: r =>
    if op % 8 = 0 ∨ op % 8 = 1 then (numText (op / 8), r)
    else if op % 8 = 2 then (strText (op / 8), r)
    else if op % 8 = 3 then (litText (op / 8), r)
    else if op % 8 = 4 ∨ op % 8 = 5 then
      (91 :: opt (bit 4 (op / 8)) [32] ++ ((kids (gen k) (sepA (op / 8)) r (op / 8 % 4).toNat).1 ++ (opt (bit 16 (op / 8)) [9] ++ [93])), (kids (gen k) (sepA (op / 8)) r (op / 8 % 4).toNat).2)
    else
      (123 :: opt (bit 4 (op / 8)) [13, 10] ++ ((kids (gen k) (sepO (op / 8)) r (op / 8 % 4).toNat).1 ++ [125]), (kids (gen k) (sepO (op / 8)) r (op / 8 % 4).toNat).2)

theorem opt_len (x : Bool) (l : List Int) : (opt x l).length ≤ l.length := by unfold opt; split <;> simp
theorem numText_len (k : Int) : (numText k).length ≤ 8 := by unfold numText; repeat' split
                                                             all_goals simp
theorem strText_len (k : Int) : (strText k).length ≤ 14 := by unfold strText; repeat' split
                                                              all_goals simp
theorem litText_len (k : Int) : (litText k).length ≤ 5 := by unfold litText; repeat' split
                                                             all_goals simp
theorem sepA_len (sel : Int) (j : Nat) : (sepA sel j).length ≤ 18 := by
  unfold sepA
  split
  · simp
  · have := opt_len (bit 8 sel) [10]
    simp at this ⊢
    omega
theorem sepO_len (sel : Int) (j : Nat) : (sepO sel j).length ≤ 18 := by
  unfold sepO
  have h1 := opt_len (decide (0 < j)) [44]
  have h2 := strText_len (sel + j)
  have h3 := opt_len (bit 8 sel) [32]
  have h4 := opt_len (bit 16 sel) [9]
  simp at h1 h3 h4 ⊢
  omega

/-- A reader of ops that takes a beginning of them, and writes no more than 100 bytes for each, and 4. -/
def Good (g : List Int → List Int × List Int) : Prop := ∀ l, ∃ m, m ≤ l.length ∧ (g l).2 = l.drop m ∧ (g l).1.length ≤ 100 * m + 4

theorem kids_good {g : List Int → List Int × List Int} {sep : Nat → List Int} (hg : Good g) (hs : ∀ j, (sep j).length ≤ 18) (r : List Int) (j : Nat) :
    ∃ m, m ≤ r.length ∧ (kids g sep r j).2 = r.drop m ∧ (kids g sep r j).1.length ≤ 100 * m + 22 * j := by
  induction j with
  | zero => exact ⟨0, Nat.zero_le _, rfl, by simp [kids]⟩
  | succ j ih =>
    obtain ⟨m, hm, h1, h2⟩ := ih
    obtain ⟨m', hm', h1', h2'⟩ := hg (kids g sep r j).2
    have h3 := hs j
    rw [h1] at hm' h1'
    simp only [List.length_drop] at hm'
    refine ⟨m + m', by omega, ?_, ?_⟩
    · simp only [kids]
      rw [h1, h1', List.drop_drop]
    · simp only [kids, List.length_append]
      omega

theorem gen_good (k : Nat) : Good (gen k) := by
  induction k with
  | zero => intro l; exact ⟨0, Nat.zero_le _, rfl, by simp [gen, nullT]⟩
  | succ k ih =>
    intro l
    cases l with
    | nil => exact ⟨0, Nat.zero_le _, rfl, by simp [gen, nullT]⟩
    | cons op r =>
      have hn := numText_len (op / 8)
      have hs := strText_len (op / 8)
      have hl := litText_len (op / 8)
      rw [gen]
      split
      · exact ⟨1, by simp, by simp, by simp; omega⟩
      · split
        · exact ⟨1, by simp, by simp, by simp; omega⟩
        · split
          · exact ⟨1, by simp, by simp, by simp; omega⟩
          · have hc : (op / 8 % 4).toNat ≤ 3 := by omega
            split
            · obtain ⟨m, hm, h1, h2⟩ := kids_good ih (sepA_len (op / 8)) r (op / 8 % 4).toNat
              have o1 := opt_len (bit 4 (op / 8)) [32]
              have o2 := opt_len (bit 16 (op / 8)) [9]
              refine ⟨m + 1, by simp; omega, by simp [h1], ?_⟩
              simp at o1 o2 ⊢
              omega
            · obtain ⟨m, hm, h1, h2⟩ := kids_good ih (sepO_len (op / 8)) r (op / 8 % 4).toNat
              have o1 := opt_len (bit 4 (op / 8)) [13, 10]
              refine ⟨m + 1, by simp; omega, by simp [h1], ?_⟩
              simp at o1 ⊢
              omega

end Go.Proofs.Qxb6600109a.Pl
