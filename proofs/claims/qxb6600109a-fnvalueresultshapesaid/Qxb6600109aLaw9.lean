import Derived.Test.Qxb6600109aVShape
namespace Go.Proofs.Qxb6600109a
open Go.RowKit

theorem valone_read {zs v : List Int} {F p s m s2 q2 : Nat} (hv : Hid (v.length = m)) (hsh : VShape zs F p s m v) (hsq : s2 < q2) (hq : q2 ≤ v.length)
    (hws : Hid (Pl.ws (v.drop 0) = v.drop s2)) (hx : Hid (Pl.val F 0 true 0 (v.drop 0) = some (v.drop q2))) : s2 = 0 ∧ q2 = m ∧ (v.take q2).drop s2 = v := by
  have hv := hv.out
  have h1 := hws.out
  have h2 := hx.out
  rw [List.drop_zero] at h1 h2
  rw [hsh.again] at h2
  have l2 := congrArg (fun x => (x.getD []).length) h2
  simp at l2
  have hwv : Pl.ws v = v := by
    cases v with
    | nil => rfl
    | cons c r => exact ws_no (hsh.head c r rfl)
  rw [hwv] at h1
  have l1 := congrArg List.length h1
  simp at l1
  obtain rfl : s2 = 0 := by omega
  obtain rfl : q2 = m := by omega
  exact ⟨rfl, rfl, by rw [List.drop_zero, List.take_of_length_le (by omega)]⟩

theorem vby {zs v : List Int} {F p s m : Nat} (hby : ∀ c ∈ zs, 0 ≤ c ∧ c ≤ 255) (hsh : VShape zs F p s m v) : ∀ c ∈ v, 0 ≤ c ∧ c ≤ 255 := by
  intro c hc
  refine hby c (List.mem_of_mem_drop (i := s) ?_)
  rw [hsh.text]
  simp [hc]

section
variable {w : World} {a : Option Addr} {cap : Nat} {zs : List Int} {pos : Int}

set_option maxRecDepth 100000 in
set_option maxHeartbeats 2000000 in
theorem law9 (h : Bs w a zs) (hby : ∀ c ∈ zs, 0 ≤ c ∧ c ≤ 255) : Calls Try.prog 9 #[.slice a zs.length cap, .int .i64 pos] w fun e w' => e = .returned (.bool true) ∧ Below w.heap.size w w' := by
  by_cases hn : zs.length ≤ 1048576
  · have hn' : (zs.length : Int) ≤ 1048576 := by omega
    by_cases h0 : pos < 0
    · go_enter Try.func9, Try.ntmps9
      go_wp2_with (go_at_call 31; refine (bytes31 _ _ _ _ _ hn).mono ?_; rintro e w' ⟨rfl, rfl⟩)
      go_ret
      exact ⟨rfl, Below.refl _ _⟩
    · by_cases h1 : (zs.length : Int) < pos
      · go_enter Try.func9, Try.ntmps9
        go_wp2_with (go_at_call 31; refine (bytes31 _ _ _ _ _ hn).mono ?_; rintro e w' ⟨rfl, rfl⟩)
        go_ret
        exact ⟨rfl, Below.refl _ _⟩
      · obtain ⟨p, rfl⟩ := Int.eq_ofNat_of_zero_le (Int.not_lt.1 h0)
        have hp : p ≤ zs.length := by omega
        go_enter Try.func9, Try.ntmps9
        go_wp2_with (first | (go_at_call 31; refine (bytes31 _ _ _ _ _ hn).mono ?_; rintro e w' ⟨rfl, rfl⟩) | (go_at_call 12; refine (clone2_any h rfl (by omega)).mono ?_; rintro e w1 ⟨a', cap', rfl, hcap1, hb1, hB1⟩))
        refine (zzValue_shape (F := fuel zs.length) hb1 rfl rfl hp (by omega) hcap1 hby (Nat.le_refl _)).mono ?_
        rintro e w2 ⟨hB2, hr⟩
        rcases hr with ⟨s, m, v, a2, cap2, hps, hm, hsm, rfl, hbv, hsh⟩ | ⟨v, dp, rfl, hx⟩
        · have hb2 := hb1.belowAll hB2
          have hB := below_step hB1 hB2
          have HVL : Hid (v.length = m) := hsh.len
          clear hB1 hB2 hb1
          go_upto_region 13 with fail
          have t54 : ((m : Int) == 0) = false := by simp; omega
          have t58 : decide (s < p) = false := by simp; omega
          have t64 : decide ((zs.length : Int) < (s : Int) + m) = false := by simp; omega
          go_wp2
          clear t54 t58 t64
          go_loop [11] (fun t => ∃ j : Nat, p ≤ j ∧ j ≤ s ∧ t = .int .i64 j) (fun t => s - (intOf t).toNat)
          case atStart => exact ⟨p, Nat.le_refl _, hps, rfl⟩
          case round =>
          obtain ⟨j, hj0, hj, rfl⟩ := hrel
          obtain ⟨bd, off, rfl, hall⟩ := hb2.all (by omega)
          have HALL : Hid (∀ i, i < zs.length → w2.cell? ⟨bd, off + i, none⟩ = some (.int .u8 (zs.getD i 0))) := hall
          clear hall
          by_cases hlt : j < s
          · obtain ⟨_, _, c, ea, hc, hdr⟩ := hb2.atH (i := j) (by omega)
            cases ea
            have hws : Hid (Pl.isWS c = true) := by
              have e := hsh.space j hj0 hlt
              have := drop_at (zs := zs) (i := j) (by omega)
              rw [hdr.out] at this
              rwa [← (List.cons.inj this).1] at e
            go_wp2_with (go_at_call 24; refine (isWS_any _ _).mono ?_; rw [hws.out]; rintro e w' ⟨rfl, hw⟩; obtain rfl := hw.symm)
            go_round
            case rel => exact ⟨j + 1, by omega, by omega, by go_num⟩
            case measure => simp [intOf]; omega
          · obtain rfl : j = s := by omega
            obtain ⟨bd2, off2, c, rfl, hc, hdr⟩ := hbv.atH (i := 0) (by rw [HVL.out]; exact hm)
            have hc : w2.cell? ⟨bd2, off2, none⟩ = some (.int .u8 c) := hc
            have hws : Hid (Pl.isWS c = false) := hsh.head c _ (by have := hdr.out; rw [List.drop_zero] at this; exact this)
            have hcut : Bs w2 (some ⟨bd, off + j, none⟩) v := by
              have := hb2.cut j (j + m) hsm
              rwa [List.drop_take, hsh.text, show j + m - j = v.length from by rw [hsh.len]; omega, List.take_left] at this
            go_wp2_with (first | (go_at_call 24; refine (isWS_any _ _).mono ?_; rw [hws.out]; rintro e w' ⟨rfl, hw⟩; obtain rfl := hw.symm) | fail)
            refine (eq_same hbv hcut HVL.out.symm HVL.out.symm (by have := HVL.out; omega)).mono ?_
            rintro e w3 ⟨rfl, hB3⟩
            have hbv3 := hbv.belowAll hB3
            have hBB := below_step hB hB3
            clear hcut hB hB3 hbv hb2 hc HALL
            obtain ⟨i0, hi0, hz0, hz1, hz2⟩ := info_parts Try.info5
            go_wp2_with (at_make; refine wpList_make_full _ rfl _ _ 22 rfl w3.heap.size 5 i0 (.int .u8 0) 1 Try.underlying22 hi0 hz0 hz1 .i64 .i64 _ _ m rfl rfl (by omega) (by omega) (by rw [hz2]; omega) (by unfold maxLen; omega) (Nat.le_refl _) ?_; intro w4 hown hgrow)
            have hB4 : Below w3.heap.size w3 w4 := (Below.refl _ _).grown hgrow (Nat.le_refl _) (fun k e => by cases e)
            have hrow := row_made hown rfl
            clear hown hgrow
            go_loopw [13] (fun t wr => ∃ (k : Nat) (ys : List Int), k ≤ m ∧ t = .int .i64 k ∧ Hid (ys.length = v.length ∧ ys.take k = v.take k) ∧ Row wr w3.heap.size ys ∧ Below w3.heap.size w3 wr) (fun t _ => m - (intOf t).toNat)
            case atStart => exact ⟨0, _, Nat.zero_le _, rfl, ⟨by simp [HVL.out], by simp⟩, hrow, hB4⟩
            case round =>
            clear hrow hB4
            obtain ⟨k, ys, hk, rfl, hy, hrow, hB5⟩ := hrel
            by_cases hlt3 : k < m
            · obtain ⟨_, _, c, ea, hc, hdr⟩ := (hbv3.belowAll hB5).atH (i := k) (by rw [HVL.out]; exact hlt3)
              cases ea
              have hcg : wr.cell? ⟨w3.heap.size, k, none⟩ = some (.int .u8 (ys.getD k 0)) := hrow.cell (by rw [hy.out.1, HVL.out]; omega)
              have hfg := hrow.free k
              go_wp2
              go_roundw
              case rel => exact ⟨k + 1, ys.set k c, by omega, by go_num, ⟨by simp [hy.out.1], take_snoc (by rw [HVL.out]; exact hlt3) hy.out.1 hdr.out hy.out.2⟩, hrow.set k c, hB5.setCell (Nat.le_refl _) _⟩
              case measure => simp [intOf]; omega
            · obtain rfl : ys = v := by
                have h1 := hy.out.2
                have hl := HVL.out
                rwa [List.take_of_length_le (by rw [hy.out.1]; omega), List.take_of_length_le (by omega)] at h1
              have hbv5 := hbv3.belowAll hB5
              go_wp2_with fail
              refine (zzValue_any (F := fuel zs.length) (p := 0) hrow.bs HVL.out.symm rfl (Nat.zero_le _) (by have := HVL.out; omega) (by have := HVL.out; omega) (vby hby hsh) (by have := HVL.out; unfold fuel; omega)).mono ?_
              rintro e w7 ⟨hB7, hr7⟩
              rcases hr7 with ⟨s2, q2, a7, cap7, hps2, hsq2, hq2, rfl, hb7, hws7, hx7⟩ | ⟨v7, dp7, rfl, hx7⟩
              · obtain ⟨rfl, rfl, e7⟩ := valone_read HVL hsh hsq2 hq2 hws7 hx7
                rw [e7] at hb7
                have hrow7 := hrow.bs.belowAll hB7
                go_wp2_with (go_at_call 22; refine (eq_same hb7 hrow7 HVL.out.symm HVL.out.symm (by have := HVL.out; omega)).mono ?_; rintro e w8 ⟨rfl, hB8⟩)
                go_ret
                exact ⟨rfl, below_step (below_step (below_step hBB hB5) hB7) hB8⟩
              · exact absurd hx7.out (by rw [List.drop_zero, hsh.again]; simp)
        · go_wp2
          go_ret
          exact ⟨rfl, below_step hB1 hB2⟩
  · have hn' : (1048576 : Int) < zs.length := by omega
    go_enter Try.func9, Try.ntmps9
    go_wp2_with (go_at_call 31; refine (bytes31_no _ _ _ _ _ hn).mono ?_; rintro e w' ⟨rfl, rfl⟩)
    go_ret
    exact ⟨rfl, Below.refl _ _⟩
end
end Go.Proofs.Qxb6600109a
