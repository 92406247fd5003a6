/-
  jb1Build; the bytes of a built text.
-/
import Derived.Test.Qxb6600109aGen
import Derived.Test.Qxb6600109aGenL
import Derived.Test.Qxb6600109aPad
namespace Go.Proofs.Qxb6600109a
open Go.RowKit

def Byts (l : List Int) : Prop := ∀ c ∈ l, 0 ≤ c ∧ c ≤ 255
theorem Byts.app {l r : List Int} (h : Byts l) (k : Byts r) : Byts (l ++ r) := by
  intro c hc
  rcases List.mem_append.1 hc with g | g
  · exact h c g
  · exact k c g
theorem Byts.cons {c : Int} {r : List Int} (h0 : 0 ≤ c) (h1 : c ≤ 255) (k : Byts r) : Byts (c :: r) := by
  intro x hx
  rcases List.mem_cons.1 hx with rfl | g
  · exact ⟨h0, h1⟩
  · exact k x g
theorem Byts.nil : Byts [] := by intro c hc; cases hc
theorem Byts.opt (x : Bool) {l : List Int} (h : Byts l) : Byts (Pl.opt x l) := by
  unfold Pl.opt
  split
  · exact h
  · exact Byts.nil
theorem byts_lit {l : List Int} (h : l.all (fun c => decide (0 ≤ c) && decide (c ≤ 255)) = true) : Byts l := by
  intro c hc
  have := List.all_eq_true.1 h c hc
  simpa using this

theorem sepA_by (sel : Int) (j : Nat) : Byts (Pl.sepA sel j) := by
  unfold Pl.sepA
  split
  · exact Byts.nil
  · exact Byts.cons (by omega) (by omega) (Byts.opt _ (byts_lit rfl))
theorem sepO_by (sel : Int) (j : Nat) : Byts (Pl.sepO sel j) :=
  (Byts.opt _ (byts_lit rfl)).app (Byts.app (strText_by _) ((Byts.opt _ (byts_lit rfl)).app (Byts.cons (by omega) (by omega) (Byts.opt _ (byts_lit rfl)))))

theorem kids_by {g : List Int → List Int × List Int} {sep : Nat → List Int} (hg : ∀ l, Byts (g l).1) (hs : ∀ j, Byts (sep j)) (r : List Int) (j : Nat) : Byts (Pl.kids g sep r j).1 := by
  induction j with
  | zero => exact Byts.nil
  | succ j ih => exact ih.app ((hs j).app (hg _))

theorem gen_by (k : Nat) : ∀ l, Byts (Pl.gen k l).1 := by
  induction k with
  | zero => intro l; exact byts_lit rfl
  | succ k ih =>
    intro l
    cases l with
    | nil => exact byts_lit rfl
    | cons op r =>
      rw [Pl.gen]
      split
      · exact numText_by _
      · split
        · exact strText_by _
        · split
          · exact litText_by _
          · split
            · exact (Byts.cons (by omega) (by omega) (Byts.opt _ (byts_lit rfl))).app ((kids_by ih (sepA_by _) r _).app ((Byts.opt _ (byts_lit rfl)).app (byts_lit rfl)))
            · exact (Byts.cons (by omega) (by omega) (Byts.opt _ (byts_lit rfl))).app ((kids_by ih (sepO_by _) r _).app (byts_lit rfl))

theorem gen_len (k : Nat) (l : List Int) : (Pl.gen k l).1.length ≤ 100 * l.length + 4 := by
  obtain ⟨m, hm, _, h⟩ := Pl.gen_good k l
  omega

theorem build_any {w : World} {a : Option Addr} {n cap : Nat} {ops : List Int} (h : Bs w a ops) (en : n = ops.length) (hn : ops.length ≤ 100000) (hby : ∀ c ∈ ops, 0 ≤ c ∧ c ≤ 255) :
    Calls Try.prog 29 #[.slice a n cap] w fun e w' => ∃ v, e = .returned v ∧ Own w' w.heap.size v (Pl.gen 200 ops).1 ∧ Below w.heap.size w w' := by
  subst en
  go_enter Try.func29, Try.ntmps29
  go_wp2_with fail
  refine (gen_any (B := w.heap.size) hby hn 200 w 0 0 (.slice none 0 0) [] (Nat.le_refl _) (by omega) h h.lt (Own.nil _ _) (Nat.le_refl _) (Nat.zero_le _) (by simp; omega)).mono ?_
  rintro e w' ⟨v, i', rfl, hown, hb, _, _, _⟩
  rw [List.drop_zero, List.nil_append] at hown
  go_wp2
  go_ret
  exact ⟨v, rfl, hown, hb⟩

end Go.Proofs.Qxb6600109a
