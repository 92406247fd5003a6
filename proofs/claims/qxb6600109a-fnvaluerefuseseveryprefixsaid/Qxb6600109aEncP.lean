/-
  THE ENCODER, in plain terms.
-/
import Derived.Test.Qxb6600109aPlain
namespace Go.Proofs.Qxb6600109a.Pl

def hx (v : Int) (up : Bool) : Int := if v < 10 then 48 + v else if up then 65 + v - 10 else 97 + v - 10
def enc1 (c : Int) : List Int :=
  if c = 34 ∨ c = 92 ∨ c = 47 then [92, c]
  else if c = 10 then [92, 110]
  else if c = 9 then [92, 116]
  else if c = 13 then [92, 114]
  else if c = 8 then [92, 98]
  else if c = 12 then [92, 102]
  else if c < 32 then [92, 117, 48, 48, hx (c / 16) (c % 2 == 1), hx (c % 16) (c % 2 == 1)]
  else [c]
def enc (l : List Int) : List Int := l.flatMap enc1

theorem enc1_len (c : Int) : (enc1 c).length ≤ 6 := by
  unfold enc1
  repeat' split
  all_goals simp
theorem enc_len (l : List Int) : (enc l).length ≤ 6 * l.length := by
  induction l with
  | nil => simp [enc]
  | cons c r ih =>
    have := enc1_len c
    simp only [enc, List.flatMap_cons, List.length_append, List.length_cons] at ih ⊢
    omega
theorem enc_snoc (l : List Int) (c : Int) : enc (l ++ [c]) = enc l ++ enc1 c := by simp [enc]

end Go.Proofs.Qxb6600109a.Pl
