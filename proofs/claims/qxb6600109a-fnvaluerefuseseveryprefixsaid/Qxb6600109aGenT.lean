/-
  The generator's small texts; append of a string's bytes.
-/
import Derived.Test.Qxb6600109aOwn
import Derived.Test.Qxb6600109aGenP
import Derived.Laws.BytesArg
import Derived.Lib.AppendStr
namespace Go.Proofs.Qxb6600109a
open Go.RowKit

theorem retS {a b : ByteArray} (h : a = b) : Ending.returned (.string a) = .returned (.string b) := by rw [h]

theorem strCells_nums (zs : List Int) (h : ∀ c ∈ zs, 0 ≤ c ∧ c ≤ 255) : Lib.strCells (strOfNums zs) = zs.map byt := by
  unfold Lib.strCells
  rw [strOfNums_data, List.map_map]
  refine List.map_congr_left fun c hc => ?_
  have := h c hc
  simp [byt]
  omega

section
variable {w : World} {ops : Array Oper} {rest : List Oper} {o : Oper} {a : Act} {Q : Exit → Act → World → Prop}

/-- 'v = append(v, s...)', v the call's own, s a string. -/
theorem wp_app_str (hgd : o.guard = none) (s x : Operand) (ho : o.op = .call { callee := .builtin .append, args := #[s, x], argTypes := #[22, 9] })
    {B : Nat} {v : Value} {ys zs : List Int} (hs : a.eval s = v) (hown : Own w B v ys) (hx : a.eval x = .string (strOfNums zs)) (hz : ∀ c ∈ zs, 0 ≤ c ∧ c ≤ 255)
    (hb : ys.length + zs.length ≤ 1000000000) (hB : B ≤ w.heap.size)
    (h : ∀ v' w', Own w' B v' (ys ++ zs) → w.grownBy w' v.ownBlock → wpList Try.prog ops Q rest (a.put o.dst v') w') : wpList Try.prog ops Q (o :: rest) a w := by
  obtain ⟨i0, hi, hz0, hz1, hz2⟩ := info_parts Try.info5
  have hsz := strOfNums_size zs
  refine Lib.wpList_append_own_string _ hgd s x 22 9 ho B 5 i0 Try.underlying22 Try.underlying9 hi hz0 hz1 hz2 v ys.length (ys.map byt) hs hown (strOfNums zs) hx (by unfold maxLen; omega) (by omega) hB ?_
  intro v' w' h1 h2 _
  refine h v' w' ?_ h2
  unfold Own
  rw [strCells_nums zs hz, hsz] at h1
  simpa using h1
end

theorem mod8 (d : Int) : d % 8 = 0 ∨ d % 8 = 1 ∨ d % 8 = 2 ∨ d % 8 = 3 ∨ d % 8 = 4 ∨ d % 8 = 5 ∨ d % 8 = 6 ∨ d % 8 = 7 := by omega
theorem mod4 (d : Int) : d % 4 = 0 ∨ d % 4 = 1 ∨ d % 4 = 2 ∨ d % 4 = 3 := by omega
theorem mod3 (d : Int) : d % 3 = 0 ∨ d % 3 = 1 ∨ d % 3 = 2 := by omega

theorem numText_any (k : Int) (w : World) (h0 : 0 ≤ k) (h1 : k ≤ 255) : Calls Try.prog 43 #[.int .u8 k] w fun e w' => e = .returned (.string (strOfNums (Pl.numText k))) ∧ w' = w := by
  rcases mod8 k with h | h | h | h | h | h | h | h
  all_goals
    go_enter Try.func43, Try.ntmps43
    go_wp2
    go_ret
    exact ⟨retS (by simp only [Pl.numText, h]; rfl), rfl⟩
theorem strText_any (k : Int) (w : World) (h0 : 0 ≤ k) (h1 : k ≤ 255) : Calls Try.prog 44 #[.int .u8 k] w fun e w' => e = .returned (.string (strOfNums (Pl.strText k))) ∧ w' = w := by
  rcases mod4 k with h | h | h | h
  all_goals
    go_enter Try.func44, Try.ntmps44
    go_wp2
    go_ret
    exact ⟨retS (by simp only [Pl.strText, h]; rfl), rfl⟩
theorem litText_any (k : Int) (w : World) (h0 : 0 ≤ k) (h1 : k ≤ 255) : Calls Try.prog 45 #[.int .u8 k] w fun e w' => e = .returned (.string (strOfNums (Pl.litText k))) ∧ w' = w := by
  rcases mod3 k with h | h | h
  all_goals
    go_enter Try.func45, Try.ntmps45
    go_wp2
    go_ret
    exact ⟨retS (by simp only [Pl.litText, h]; rfl), rfl⟩

theorem numText_by (k : Int) : ∀ c ∈ Pl.numText k, 0 ≤ c ∧ c ≤ 255 := by
  rcases mod8 k with h | h | h | h | h | h | h | h <;> simp [Pl.numText, h]
theorem strText_by (k : Int) : ∀ c ∈ Pl.strText k, 0 ≤ c ∧ c ≤ 255 := by
  rcases mod4 k with h | h | h | h <;> simp [Pl.strText, h]
theorem litText_by (k : Int) : ∀ c ∈ Pl.litText k, 0 ≤ c ∧ c ≤ 255 := by
  rcases mod3 k with h | h | h <;> simp [Pl.litText, h]

end Go.Proofs.Qxb6600109a
