import Derived.Test.Qxb6600109aSmall
import Derived.Test.Qxb6600109aEnc
import Derived.Test.Qxb6600109aEncL
namespace Go.Proofs.Qxb6600109a
open Go.RowKit

theorem Own.slice {w : World} {B : Nat} {v : Value} {ys : List Int} (h : Own w B v ys) : ∃ a cap, v = .slice a ys.length cap ∧ Bs w a ys ∧ ys.length ≤ cap := by
  rcases h.shape with ⟨rfl, rfl⟩ | ⟨g, cap, rfl, hl, _, hb, _, _⟩
  · exact ⟨none, 0, rfl, Bs.nil _ _, Nat.le_refl _⟩
  · exact ⟨_, cap, rfl, hb, hl⟩

theorem mod4_cases (d : Int) : d % 4 = 0 ∨ d % 4 = 1 ∨ d % 4 = 2 ∨ d % 4 = 3 := by omega
theorem wsb_any (j : Int) (w : World) (h0 : 0 ≤ j) (h1 : j ≤ 255) : Calls Try.prog 20 #[.int .i64 j] w fun e w' => e = .returned (.int .u8 (Pl.wsb j)) ∧ w' = w := by
  rcases mod4_cases j with h | h | h | h
  all_goals
    go_enter Try.func20, Try.ntmps20
    go_wp2
    go_ret
    exact ⟨retH (by simp [Pl.wsb, h]), rfl⟩

theorem bytes18 (a1 a2 a3 : Option Addr) (n1 n2 n3 k1 k2 k3 : Nat) (w : World) (hn : n1 + n2 + n3 ≤ 1048576) : Calls Try.prog 18 #[.slice a1 n1 k1, .slice a2 n2 k2, .slice a3 n3 k3] w fun e w' => e = .returned (.bool true) ∧ w' = w := by
  have h1 : (n1 : Int) ≤ 1048576 := by omega
  have h2 : (n2 : Int) ≤ 1048576 := by omega
  have h3 : (n3 : Int) ≤ 1048576 := by omega
  have h12 : (n1 : Int) + n2 ≤ 1048576 := by omega
  have h123 : (n1 : Int) + n2 + n3 ≤ 1048576 := by omega
  go_enter Try.func18, Try.ntmps18
  go_wp2
  go_ret
  exact ⟨rfl, rfl⟩
theorem bytes18_no (a1 a2 a3 : Option Addr) (n1 n2 n3 k1 k2 k3 : Nat) (w : World) (hn : ¬ n1 + n2 + n3 ≤ 1048576) : Calls Try.prog 18 #[.slice a1 n1 k1, .slice a2 n2 k2, .slice a3 n3 k3] w fun e w' => e = .returned (.bool false) ∧ w' = w := by
  by_cases h1 : (1048576 : Int) < n1
  · go_enter Try.func18, Try.ntmps18
    go_wp2
    go_ret
    exact ⟨rfl, rfl⟩
  · by_cases h2 : (1048576 : Int) < n2
    · go_enter Try.func18, Try.ntmps18
      go_wp2
      go_ret
      exact ⟨rfl, rfl⟩
    · by_cases h12 : (1048576 : Int) < (n1 : Int) + n2
      · go_enter Try.func18, Try.ntmps18
        go_wp2
        go_ret
        exact ⟨rfl, rfl⟩
      · by_cases h3 : (1048576 : Int) < n3
        · go_enter Try.func18, Try.ntmps18
          go_wp2
          go_ret
          exact ⟨rfl, rfl⟩
        · have h123 : (1048576 : Int) < (n1 : Int) + n2 + n3 := by omega
          go_enter Try.func18, Try.ntmps18
          go_wp2
          go_ret
          exact ⟨rfl, rfl⟩

end Go.Proofs.Qxb6600109a
