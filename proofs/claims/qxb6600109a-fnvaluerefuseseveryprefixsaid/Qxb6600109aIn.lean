/-
  FROM A SLICE THAT CAME IN to 'Bs'.
-/
import Derived.Test.Qxb6600109aBase
import Derived.OpenShut
namespace Go.Proofs.Qxb6600109a
open Go.RowKit

theorem bs_in {w : World} {a : Option Addr} {len cap : Nat} {zs : List Int}
    (h : (a = none ∧ len = 0 ∧ cap = 0 ∧ zs = []) ∨ ∃ x, a = some x ∧ len ≤ cap ∧ cap ≤ maxLen ∧ zs.length = cap ∧ (∀ i, i < zs.length → w.cell? (x.add i) = some (.int .u8 (zs.getD i 0))) ∧ ∀ n ∈ zs, (Lit.int .u8 n).wf = true) :
    ∃ ys : List Int, len = ys.length ∧ Bs w a ys ∧ ∀ n ∈ ys, 0 ≤ n ∧ n ≤ 255 := by
  rcases h with ⟨rfl, rfl, rfl, rfl⟩ | ⟨x, rfl, hl, hm, hz, hc, hw⟩
  · exact ⟨[], rfl, Bs.nil _ _, by simp⟩
  · refine ⟨zs.take len, by simp; omega, ?_, fun n hn => bounds_u8 (hw n (List.mem_of_mem_take hn))⟩
    intro i hi
    simp only [List.length_take] at hi
    have h0 := World.cell?_spot (hc 0 (by omega))
    obtain ⟨b, off, spot⟩ := x
    have hs : spot = none := by simpa [Addr.add] using h0
    subst hs
    refine ⟨b, off, rfl, ?_⟩
    have h1 := hc i (by omega)
    have e : (⟨b, off, none⟩ : Addr).add i = ⟨b, off + i, none⟩ := by unfold Addr.add; split <;> simp_all
    rw [e] at h1
    rw [h1]
    simp only [List.getD_eq_getElem?_getD, List.getElem?_take]
    rw [if_pos (by omega)]

end Go.Proofs.Qxb6600109a
