import Derived.Test.Qxb6600109aNumZ
import Derived.Test.Qxb6600109aRow
import Derived.Test.Qxb6600109aAuto
namespace Go.Proofs.Qxb6600109a
open Go.RowKit

theorem ret_int {k : IntKind} {a b : Int} (h : a = b) : Ending.returned (.int k a) = .returned (.int k b) := by rw [h]
theorem ret_bool {a b : Bool} (h : a = b) : Ending.returned (.bool a) = .returned (.bool b) := by rw [h]

theorem dig_cases (c : Int) : (48 ≤ c ∧ c ≤ 57 ∧ Hid (Pl.dig c = true)) ∨ (48 ≤ c ∧ ¬ c ≤ 57 ∧ Hid (Pl.dig c = false)) ∨ (¬ 48 ≤ c ∧ Hid (Pl.dig c = false)) := by
  by_cases h : 48 ≤ c
  · by_cases h' : c ≤ 57
    · exact .inl ⟨h, h', by simp [Hid, Pl.dig, h, h']⟩
    · exact .inr (.inl ⟨h, h', by simp [Hid, Pl.dig, h']⟩)
  · exact .inr (.inr ⟨h, by simp [Hid, Pl.dig, h]⟩)

theorem accept_any (st : Int) (w : World) : Calls Try.prog 14 #[.int .i64 st] w fun e w' => e = .returned (.bool (Pl.accept st)) ∧ w' = w := by
  rcases beq_cases st 2 with ⟨t1, e1⟩ | ⟨t1, e1⟩
  · go_enter Try.func14, Try.ntmps14
    go_wp2
    go_ret
    exact ⟨ret_bool (by simp [Pl.accept, t1]), rfl⟩
  · rcases beq_cases st 3 with ⟨t2, e2⟩ | ⟨t2, e2⟩
    · go_enter Try.func14, Try.ntmps14
      go_wp2
      go_ret
      exact ⟨ret_bool (by simp [Pl.accept, t1, t2]), rfl⟩
    · rcases beq_cases st 5 with ⟨t3, e3⟩ | ⟨t3, e3⟩
      · go_enter Try.func14, Try.ntmps14
        go_wp2
        go_ret
        exact ⟨ret_bool (by simp [Pl.accept, t1, t2, t3]), rfl⟩
      · go_enter Try.func14, Try.ntmps14
        go_wp2
        go_ret
        exact ⟨ret_bool (by simp [Pl.accept, t1, t2, t3]), rfl⟩

theorem step0_any (c : Int) (w : World) : Calls Try.prog 13 #[.int .i64 0, .int .u8 c] w fun e w' => e = .returned (.int .i64 (Pl.step 0 c)) ∧ w' = w := by
  rcases dig_cases c with ⟨h1, h2, hd⟩ | ⟨h1, h2, hd⟩ | ⟨h1, hd⟩ <;> rcases beq_cases c 45 with ⟨t0, e0⟩ | ⟨t0, e0⟩ <;> rcases beq_cases c 48 with ⟨t1, e1⟩ | ⟨t1, e1⟩
  all_goals
    go_enter Try.func13, Try.ntmps13
    go_wp2
    go_ret
    exact ⟨ret_int (by have g := hd.out; have g0 := e0.out; have g1 := e1.out; simp_all [Pl.step]), rfl⟩
theorem step1_any (c : Int) (w : World) : Calls Try.prog 13 #[.int .i64 1, .int .u8 c] w fun e w' => e = .returned (.int .i64 (Pl.step 1 c)) ∧ w' = w := by
  rcases dig_cases c with ⟨h1, h2, hd⟩ | ⟨h1, h2, hd⟩ | ⟨h1, hd⟩ <;> rcases beq_cases c 48 with ⟨t0, e0⟩ | ⟨t0, e0⟩
  all_goals
    go_enter Try.func13, Try.ntmps13
    go_wp2
    go_ret
    exact ⟨ret_int (by have g := hd.out; have g0 := e0.out; simp_all [Pl.step]), rfl⟩
theorem step2_any (c : Int) (w : World) : Calls Try.prog 13 #[.int .i64 2, .int .u8 c] w fun e w' => e = .returned (.int .i64 (Pl.step 2 c)) ∧ w' = w := by
  rcases dig_cases c with ⟨h1, h2, hd⟩ | ⟨h1, h2, hd⟩ | ⟨h1, hd⟩ <;> rcases beq_cases c 46 with ⟨t0, e0⟩ | ⟨t0, e0⟩ <;> rcases beq_cases c 101 with ⟨t1, e1⟩ | ⟨t1, e1⟩ <;> rcases beq_cases c 69 with ⟨t2, e2⟩ | ⟨t2, e2⟩
  all_goals
    go_enter Try.func13, Try.ntmps13
    go_wp2
    go_ret
    exact ⟨ret_int (by have g := hd.out; have g0 := e0.out; have g1 := e1.out; have g2 := e2.out; simp_all [Pl.step]), rfl⟩
theorem step3_any (c : Int) (w : World) : Calls Try.prog 13 #[.int .i64 3, .int .u8 c] w fun e w' => e = .returned (.int .i64 (Pl.step 3 c)) ∧ w' = w := by
  rcases dig_cases c with ⟨h1, h2, hd⟩ | ⟨h1, h2, hd⟩ | ⟨h1, hd⟩ <;> rcases beq_cases c 46 with ⟨t0, e0⟩ | ⟨t0, e0⟩ <;> rcases beq_cases c 101 with ⟨t1, e1⟩ | ⟨t1, e1⟩ <;> rcases beq_cases c 69 with ⟨t2, e2⟩ | ⟨t2, e2⟩
  all_goals
    go_enter Try.func13, Try.ntmps13
    go_wp2
    go_ret
    exact ⟨ret_int (by have g := hd.out; have g0 := e0.out; have g1 := e1.out; have g2 := e2.out; simp_all [Pl.step]), rfl⟩
theorem step4_any (c : Int) (w : World) : Calls Try.prog 13 #[.int .i64 4, .int .u8 c] w fun e w' => e = .returned (.int .i64 (Pl.step 4 c)) ∧ w' = w := by
  rcases dig_cases c with ⟨h1, h2, hd⟩ | ⟨h1, h2, hd⟩ | ⟨h1, hd⟩
  all_goals
    go_enter Try.func13, Try.ntmps13
    go_wp2
    go_ret
    exact ⟨ret_int (by have g := hd.out; simp_all [Pl.step]), rfl⟩
theorem step5_any (c : Int) (w : World) : Calls Try.prog 13 #[.int .i64 5, .int .u8 c] w fun e w' => e = .returned (.int .i64 (Pl.step 5 c)) ∧ w' = w := by
  rcases dig_cases c with ⟨h1, h2, hd⟩ | ⟨h1, h2, hd⟩ | ⟨h1, hd⟩ <;> rcases beq_cases c 101 with ⟨t0, e0⟩ | ⟨t0, e0⟩ <;> rcases beq_cases c 69 with ⟨t1, e1⟩ | ⟨t1, e1⟩
  all_goals
    go_enter Try.func13, Try.ntmps13
    go_wp2
    go_ret
    exact ⟨ret_int (by have g := hd.out; have g0 := e0.out; have g1 := e1.out; simp_all [Pl.step]), rfl⟩
theorem step6_any (c : Int) (w : World) : Calls Try.prog 13 #[.int .i64 6, .int .u8 c] w fun e w' => e = .returned (.int .i64 (Pl.step 6 c)) ∧ w' = w := by
  rcases dig_cases c with ⟨h1, h2, hd⟩ | ⟨h1, h2, hd⟩ | ⟨h1, hd⟩ <;> rcases beq_cases c 43 with ⟨t0, e0⟩ | ⟨t0, e0⟩ <;> rcases beq_cases c 45 with ⟨t1, e1⟩ | ⟨t1, e1⟩
  all_goals
    go_enter Try.func13, Try.ntmps13
    go_wp2
    go_ret
    exact ⟨ret_int (by have g := hd.out; have g0 := e0.out; have g1 := e1.out; simp_all [Pl.step]), rfl⟩
theorem step7_any (c : Int) (w : World) : Calls Try.prog 13 #[.int .i64 7, .int .u8 c] w fun e w' => e = .returned (.int .i64 (Pl.step 7 c)) ∧ w' = w := by
  rcases dig_cases c with ⟨h1, h2, hd⟩ | ⟨h1, h2, hd⟩ | ⟨h1, hd⟩
  all_goals
    go_enter Try.func13, Try.ntmps13
    go_wp2
    go_ret
    exact ⟨ret_int (by have g := hd.out; simp_all [Pl.step]), rfl⟩
theorem step8_any (c : Int) (w : World) : Calls Try.prog 13 #[.int .i64 8, .int .u8 c] w fun e w' => e = .returned (.int .i64 (Pl.step 8 c)) ∧ w' = w := by
  rcases dig_cases c with ⟨h1, h2, hd⟩ | ⟨h1, h2, hd⟩ | ⟨h1, hd⟩
  all_goals
    go_enter Try.func13, Try.ntmps13
    go_wp2
    go_ret
    exact ⟨ret_int (by have g := hd.out; simp_all [Pl.step]), rfl⟩

theorem step_any (st c : Int) (w : World) (h0 : 0 ≤ st) (h8 : st ≤ 8) : Calls Try.prog 13 #[.int .i64 st, .int .u8 c] w fun e w' => e = .returned (.int .i64 (Pl.step st c)) ∧ w' = w := by
  rcases (show st = 0 ∨ st = 1 ∨ st = 2 ∨ st = 3 ∨ st = 4 ∨ st = 5 ∨ st = 6 ∨ st = 7 ∨ st = 8 from by omega) with rfl | rfl | rfl | rfl | rfl | rfl | rfl | rfl | rfl
  · exact step0_any c w
  · exact step1_any c w
  · exact step2_any c w
  · exact step3_any c w
  · exact step4_any c w
  · exact step5_any c w
  · exact step6_any c w
  · exact step7_any c w
  · exact step8_any c w

/-- The bound on lengths: one slice. -/
theorem bytes11 (a : Option Addr) (n cap : Nat) (pos : Int) (w : World) (hn : n ≤ 1048576) : Calls Try.prog 11 #[.slice a n cap, .int .i64 pos] w fun e w' => e = .returned (.bool true) ∧ w' = w := by
  have hn' : (n : Int) ≤ 1048576 := by omega
  go_enter Try.func11, Try.ntmps11
  go_wp2
  go_ret
  exact ⟨rfl, rfl⟩
theorem bytes11_no (a : Option Addr) (n cap : Nat) (pos : Int) (w : World) (hn : ¬ n ≤ 1048576) : Calls Try.prog 11 #[.slice a n cap, .int .i64 pos] w fun e w' => e = .returned (.bool false) ∧ w' = w := by
  have hn' : (1048576 : Int) < n := by omega
  go_enter Try.func11, Try.ntmps11
  go_wp2
  go_ret
  exact ⟨rfl, rfl⟩

end Go.Proofs.Qxb6600109a
