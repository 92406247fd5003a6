/-
  PLAIN LAWS of the encoder: what it writes is read through; white space.
-/
import Derived.Test.Qxb6600109aEncP
import Derived.Test.Qxb6600109aStr
namespace Go.Proofs.Qxb6600109a

theorem hx_hex (v : Int) (up : Bool) (h0 : 0 ≤ v) (h1 : v ≤ 15) : Pl.hex (Pl.hx v up) = true := by
  unfold Pl.hx
  split
  · simp [Pl.hex]; omega
  · cases up
    · simp [Pl.hex]; omega
    · simp [Pl.hex]; omega

theorem strB_enc1 (c : Int) (r : List Int) (h0 : 0 ≤ c) : Pl.strB (Pl.enc1 c ++ r) = Pl.strB r := by
  unfold Pl.enc1
  by_cases h1 : c = 34 ∨ c = 92 ∨ c = 47
  · rw [if_pos h1]
    rcases h1 with rfl | rfl | rfl <;> exact strB_one rfl (by decide)
  · rw [if_neg h1]
    by_cases h2 : c = 10
    · rw [if_pos h2]; exact strB_one rfl (by decide)
    · rw [if_neg h2]
      by_cases h3 : c = 9
      · rw [if_pos h3]; exact strB_one rfl (by decide)
      · rw [if_neg h3]
        by_cases h4 : c = 13
        · rw [if_pos h4]; exact strB_one rfl (by decide)
        · rw [if_neg h4]
          by_cases h5 : c = 8
          · rw [if_pos h5]; exact strB_one rfl (by decide)
          · rw [if_neg h5]
            by_cases h6 : c = 12
            · rw [if_pos h6]; exact strB_one rfl (by decide)
            · rw [if_neg h6]
              by_cases h7 : c < 32
              · rw [if_pos h7]
                have e1 := hx_hex (c / 16) (c % 2 == 1) (by omega) (by omega)
                have e2 := hx_hex (c % 16) (c % 2 == 1) (by omega) (by omega)
                have he : Pl.esc (117 :: 48 :: 48 :: Pl.hx (c / 16) (c % 2 == 1) :: Pl.hx (c % 16) (c % 2 == 1) :: r) = true := by
                  have e3 : Pl.hex 48 = true := by decide
                  simp [Pl.esc, Pl.hex4, e1, e2, e3]
                exact (strB_u he).2
              · rw [if_neg h7]
                exact strB_go (by omega) (by omega) h7

theorem strB_enc (l : List Int) (r : List Int) (h : ∀ c ∈ l, 0 ≤ c) : Pl.strB (Pl.enc l ++ r) = Pl.strB r := by
  induction l with
  | nil => rfl
  | cons c t ih =>
    have : Pl.enc (c :: t) ++ r = Pl.enc1 c ++ (Pl.enc t ++ r) := by simp [Pl.enc]
    rw [this, strB_enc1 c _ (h c (by simp)), ih (fun x hx => h x (by simp [hx]))]

def Pl.wsb (j : Int) : Int := if j % 4 = 0 then 32 else if j % 4 = 1 then 9 else if j % 4 = 2 then 10 else 13
theorem wsb_ws (j : Int) : Pl.isWS (Pl.wsb j) = true := by
  unfold Pl.wsb
  repeat' split
  all_goals decide
theorem ws_map (pad r : List Int) : Pl.ws (pad.map Pl.wsb ++ r) = Pl.ws r := by
  induction pad with
  | nil => rfl
  | cons c t ih => rw [List.map_cons, List.cons_append, ws_yes (wsb_ws c), ih]

end Go.Proofs.Qxb6600109a
