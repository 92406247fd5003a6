import Derived.Test.Qxb6600109aNumL
namespace Go.Proofs.Qxb6600109a
open Go.RowKit

theorem drop_inj {zs : List Int} {i k : Nat} (hi : i ≤ zs.length) (hk : k ≤ zs.length) (h : zs.drop i = zs.drop k) : i = k := by
  have := congrArg List.length h
  simp at this
  omega

/-- What the automaton's end says of 'num'. -/
theorem auto_end {zs : List Int} {p k i : Nat} {st : Int} {f : Bool} (hr : Hid (Pl.run 0 (zs.drop p) = (st, zs.drop k))) (hk : k ≤ zs.length) (hi : i ≤ zs.length)
    (hq : Hid ((Pl.num (zs.drop p) = some (zs.drop i) ∧ f = false) ∨ (Pl.num (zs.drop p) = none ∧ f = true ∧ i = zs.length))) :
    (Pl.accept st = true ∧ i = k ∧ f = false) ∨ (Pl.accept st = false ∧ i = zs.length ∧ f = true) := by
  have hv := Pl.verdict0 (zs.drop p)
  rw [hr.out] at hv
  unfold Pl.verdict at hv
  rcases hq.out with ⟨h1, h2⟩ | ⟨h1, h2, h3⟩
  · rw [h1] at hv
    by_cases ha : Pl.accept st = true
    · simp [ha] at hv
      exact .inl ⟨ha, (drop_inj hk hi (by simpa using hv)).symm, h2⟩
    · simp [ha] at hv
  · rw [h1] at hv
    by_cases ha : Pl.accept st = true
    · simp [ha] at hv
    · exact .inr ⟨by simpa using ha, h3, h2⟩

section
variable {w : World} {a : Option Addr} {cap : Nat} {zs : List Int} {pos : Int}

theorem run_go {st : Int} {c : Int} {r : List Int} (h : ¬ Pl.step st c < 0) : Pl.run st (c :: r) = Pl.run (Pl.step st c) r := by simp [Pl.run, h]
theorem run_stop {st : Int} {c : Int} {r : List Int} (h : Pl.step st c < 0) : Pl.run st (c :: r) = (st, c :: r) := by simp [Pl.run, h]

theorem law3 (h : Bs w a zs) : Calls Try.prog 3 #[.slice a zs.length cap, .int .i64 pos] w fun e w' => e = .returned (.bool true) ∧ Below w.heap.size w w' := by
  by_cases hn : zs.length ≤ 1048576
  · have hn' : (zs.length : Int) ≤ 1048576 := by omega
    by_cases h0 : pos < 0
    · go_enter Try.func3, Try.ntmps3
      go_wp2_with (go_at_call 11; refine (bytes11 _ _ _ _ _ hn).mono ?_; rintro e w' ⟨rfl, rfl⟩)
      go_ret
      exact ⟨rfl, Below.refl _ _⟩
    · by_cases h1 : (zs.length : Int) < pos
      · go_enter Try.func3, Try.ntmps3
        go_wp2_with (go_at_call 11; refine (bytes11 _ _ _ _ _ hn).mono ?_; rintro e w' ⟨rfl, rfl⟩)
        go_ret
        exact ⟨rfl, Below.refl _ _⟩
      · obtain ⟨p, rfl⟩ := Int.eq_ofNat_of_zero_le (Int.not_lt.1 h0)
        have hp : p ≤ zs.length := by omega
        go_enter Try.func3, Try.ntmps3
        go_wp2_with (first | (go_at_call 11; refine (bytes11 _ _ _ _ _ hn).mono ?_; rintro e w' ⟨rfl, rfl⟩) | (go_at_call 12; refine (clone_any h (by omega)).mono ?_; rintro e w1 ⟨a', cap', rfl, hb1, hB1⟩))
        go_loop [5, 6] (fun s t => ∃ (k : Nat) (st : Int), k ≤ zs.length ∧ t = .int .i64 k ∧ s = .int .i64 st ∧ 0 ≤ st ∧ st ≤ 8 ∧ Hid (Pl.run 0 (zs.drop p) = Pl.run st (zs.drop k))) (fun _ t => zs.length - (intOf t).toNat)
        case atStart => exact ⟨p, 0, hp, rfl, rfl, by omega, by omega, rfl⟩
        case round =>
          obtain ⟨k, st, hk, rfl, rfl, hs0, hs8, hrun⟩ := hrel
          by_cases hlt : k < zs.length
          · obtain ⟨bd, off, c, rfl, hc, hdr⟩ := hb1.atH hlt
            by_cases hneg : Pl.step st c < 0
            · have hend : Hid (Pl.run 0 (zs.drop p) = (st, zs.drop k)) := by show _ = _; rw [hrun.out, hdr.out, run_stop hneg]
              rcases hac : Pl.accept st with _ | _
              · go_wp2_with (first | (go_at_call 13; refine (step_any _ _ _ hs0 hs8).mono ?_; rintro e w' ⟨rfl, rfl⟩) | (go_at_call 14; refine (accept_any _ _).mono ?_; rintro e w' ⟨rfl, rfl⟩) | fail)
                refine (zzNumber_any hb1 hp (by omega)).mono ?_
                rintro e w2 ⟨i, f, rfl, hi, hq, hB2⟩
                rcases auto_end hend hk hi hq with ⟨ha, rfl, rfl⟩ | ⟨ha, rfl, rfl⟩
                · rw [hac] at ha
                  cases ha
                · go_wp2
                  go_ret
                  exact ⟨rfl, hB1.trans (hB2.mono hB1.size)⟩
              · go_wp2_with (first | (go_at_call 13; refine (step_any _ _ _ hs0 hs8).mono ?_; rintro e w' ⟨rfl, rfl⟩) | (go_at_call 14; refine (accept_any _ _).mono ?_; rintro e w' ⟨rfl, rfl⟩) | fail)
                refine (zzNumber_any hb1 hp (by omega)).mono ?_
                rintro e w2 ⟨i, f, rfl, hi, hq, hB2⟩
                rcases auto_end hend hk hi hq with ⟨ha, rfl, rfl⟩ | ⟨ha, rfl, rfl⟩
                · go_wp2
                  go_ret
                  exact ⟨rfl, hB1.trans (hB2.mono hB1.size)⟩
                · rw [hac] at ha
                  cases ha
            · have hrg := Pl.step_range st c
              go_wp2_with (first | (go_at_call 13; refine (step_any _ _ _ hs0 hs8).mono ?_; rintro e w' ⟨rfl, rfl⟩) | fail)
              go_round
              case rel => exact ⟨k + 1, _, by omega, by go_num, rfl, by omega, by omega, by show _ = _; rw [hrun.out, hdr.out, run_go (by omega)]⟩
              case measure => simp [intOf]; omega
          · have hend : Hid (Pl.run 0 (zs.drop p) = (st, zs.drop k)) := by show _ = _; rw [hrun.out, List.drop_of_length_le (by omega)]; rfl
            rcases hac : Pl.accept st with _ | _
            · go_wp2_with (first | (go_at_call 13; refine (step_any _ _ _ hs0 hs8).mono ?_; rintro e w' ⟨rfl, rfl⟩) | (go_at_call 14; refine (accept_any _ _).mono ?_; rintro e w' ⟨rfl, rfl⟩) | fail)
              refine (zzNumber_any hb1 hp (by omega)).mono ?_
              rintro e w2 ⟨i, f, rfl, hi, hq, hB2⟩
              rcases auto_end hend hk hi hq with ⟨ha, rfl, rfl⟩ | ⟨ha, rfl, rfl⟩
              · rw [hac] at ha
                cases ha
              · go_wp2
                go_ret
                exact ⟨rfl, hB1.trans (hB2.mono hB1.size)⟩
            · go_wp2_with (first | (go_at_call 13; refine (step_any _ _ _ hs0 hs8).mono ?_; rintro e w' ⟨rfl, rfl⟩) | (go_at_call 14; refine (accept_any _ _).mono ?_; rintro e w' ⟨rfl, rfl⟩) | fail)
              refine (zzNumber_any hb1 hp (by omega)).mono ?_
              rintro e w2 ⟨i, f, rfl, hi, hq, hB2⟩
              rcases auto_end hend hk hi hq with ⟨ha, rfl, rfl⟩ | ⟨ha, rfl, rfl⟩
              · go_wp2
                go_ret
                exact ⟨rfl, hB1.trans (hB2.mono hB1.size)⟩
              · rw [hac] at ha
                cases ha
  · have hn' : (1048576 : Int) < zs.length := by omega
    go_enter Try.func3, Try.ntmps3
    go_wp2_with (go_at_call 11; refine (bytes11_no _ _ _ _ _ hn).mono ?_; rintro e w' ⟨rfl, rfl⟩)
    go_ret
    exact ⟨rfl, Below.refl _ _⟩
end
end Go.Proofs.Qxb6600109a
