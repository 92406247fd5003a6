/-
  WHAT A CUT 'x[l:h]' OF BYTES GIVES, as a run equation (for a region that draws its order).
-/
import Derived.Test.Qxb6600109aBase
namespace Go.Proofs.Qxb6600109a
open Go.RowKit

/-- Where the cut begins. -/
def slA (a : Option Addr) (cap l : Nat) : Option Addr := if cap = l then a else a.map fun z => z.add l

theorem size5 (W : World) : Sem.run Try.prog (sizeOf (Try.prog.elem 22)) W = .ok 1 W := by kernel_rfl

theorem run_sl (W : World) (a : Option Addr) (n cap : Nat) (x y : Int) (l h : Nat) (hx : x = l) (hy : y = h) (hl : l ≤ h) (hc : h ≤ cap) :
    (Instr.slice 22 (.slice a n cap) (some (.int .i64 x)) (some (.int .i64 y)) none).run Try.prog W = .ok (.slice (slA a cap l) (h - l) (cap - l)) W := by
  subst hx
  subst hy
  rw [run_slice_lh (P := Try.prog) W 22 a n cap (by kernel_rfl) .i64 .i64 _ _ (by omega) (by omega) (by omega), size5]
  simp only [Result.andThen, sliced, Int.toNat_natCast, Nat.mul_one, slA]

theorem slA_some {bd off cap l : Nat} (h : l < cap) : slA (some ⟨bd, off, none⟩) cap l = some ⟨bd, off + l, none⟩ := by
  unfold slA
  rw [if_neg (by omega)]
  simp [Addr.add]

theorem slA_bs {w : World} {a : Option Addr} {zs : List Int} {cap : Nat} (h : Bs w a zs) (l j : Nat) (hj : j ≤ zs.length) (hc : zs.length ≤ cap) : Bs w (slA a cap l) ((zs.take j).drop l) := by
  intro k hk
  simp only [List.length_drop, List.length_take] at hk
  obtain ⟨bd, off, rfl, _⟩ := h 0 (by omega)
  rw [slA_some (by omega)]
  exact h.cut l j hj k (by simp; omega)
end Go.Proofs.Qxb6600109a
