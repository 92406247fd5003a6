import Derived.Test.Qxb6600109aShape
namespace Go.Proofs.Qxb6600109a
open Go.RowKit

theorem alone_step {v ys : List Int} {m k : Nat} {c : Int} (hlt : k < m) (hv : Hid (v.length = m)) (hy : Hid (ys.length = m + 2 ∧ ys.take (k + 1) = 34 :: v.take k)) (hdr : Hid (v.drop k = c :: v.drop (k + 1))) :
    Hid ((ys.set (k + 1) c).length = m + 2 ∧ (ys.set (k + 1) c).take (k + 1 + 1) = 34 :: v.take (k + 1)) := by
  obtain ⟨h1, h2⟩ := hy.out
  have hv := hv.out
  have hl : k < v.length := by omega
  have hc : v[k] = c := by
    have := List.drop_eq_getElem_cons hl
    rw [hdr.out] at this
    exact (List.cons.inj this).1.symm
  refine ⟨by simp [h1], ?_⟩
  rw [List.take_succ_eq_append_getElem (by simpa using by omega), List.take_succ_eq_append_getElem hl, List.take_set_of_le (by omega), h2, List.getElem_set_self, hc]
  rfl

theorem alone_end {v ys : List Int} {m : Nat} (hv : Hid (v.length = m)) (hy : Hid (ys.length = m + 2 ∧ ys.take (m + 1) = 34 :: v.take m)) : ys.set (m + 1) 34 = 34 :: (v ++ [34]) := by
  obtain ⟨h1, h2⟩ := hy.out
  have hv := hv.out
  have h3 : (ys.set (m + 1) 34).take (m + 1 + 1) = 34 :: (v ++ [34]) := by
    rw [List.take_succ_eq_append_getElem (by simpa using by omega), List.take_set_of_le (by omega), h2, List.getElem_set_self, List.take_of_length_le (by omega)]
    rfl
  rwa [List.take_of_length_le (by simp; omega)] at h3

theorem alone_read {zs v : List Int} {p o m s q : Nat} (hv : Hid (v.length = m)) (hsh : Shape zs p o m v) (hq : q < (34 :: (v ++ [34])).length)
    (hx : Hid (Pl.ws ((34 :: (v ++ [34])).drop 0) = 34 :: (34 :: (v ++ [34])).drop s ∧ Pl.strB ((34 :: (v ++ [34])).drop s) = some ((34 :: (v ++ [34])).drop (q + 1)))) :
    s = 1 ∧ q = m + 1 ∧ ((34 :: (v ++ [34])).take q).drop s = v := by
  obtain ⟨h1, h2⟩ := hx.out
  have hv := hv.out
  rw [List.drop_zero, ws_no (by decide)] at h1
  have h1' := (List.cons.inj h1).2
  have hl := congrArg List.length h1'
  simp at hl hq
  obtain rfl : s = 1 := by omega
  rw [← h1', hsh.again []] at h2
  have hl2 := congrArg (fun x => (x.getD []).length) h2
  simp at hl2
  obtain rfl : q = m + 1 := by omega
  refine ⟨rfl, rfl, ?_⟩
  rw [List.take_succ_cons, List.drop_one, List.tail_cons, ← hv, List.take_left]

section
variable {w : World} {a : Option Addr} {cap : Nat} {zs : List Int} {pos : Int}

set_option maxRecDepth 100000 in
set_option maxHeartbeats 1000000 in
theorem law6 (h : Bs w a zs) : Calls Try.prog 6 #[.slice a zs.length cap, .int .i64 pos] w fun e w' => e = .returned (.bool true) ∧ Below w.heap.size w w' := by
  by_cases hn : zs.length ≤ 1048576
  · have hn' : (zs.length : Int) ≤ 1048576 := by omega
    by_cases h0 : pos < 0
    · go_enter Try.func6, Try.ntmps6
      go_wp2_with (go_at_call 23; refine (bytes23 _ _ _ _ _ hn).mono ?_; rintro e w' ⟨rfl, rfl⟩)
      go_ret
      exact ⟨rfl, Below.refl _ _⟩
    · by_cases h1 : (zs.length : Int) < pos
      · go_enter Try.func6, Try.ntmps6
        go_wp2_with (go_at_call 23; refine (bytes23 _ _ _ _ _ hn).mono ?_; rintro e w' ⟨rfl, rfl⟩)
        go_ret
        exact ⟨rfl, Below.refl _ _⟩
      · obtain ⟨p, rfl⟩ := Int.eq_ofNat_of_zero_le (Int.not_lt.1 h0)
        have hp : p ≤ zs.length := by omega
        go_enter Try.func6, Try.ntmps6
        go_wp2_with (first | (go_at_call 23; refine (bytes23 _ _ _ _ _ hn).mono ?_; rintro e w' ⟨rfl, rfl⟩) | (go_at_call 12; refine (clone2_any h rfl (by omega)).mono ?_; rintro e w1 ⟨a', cap', rfl, hcap1, hb1, hB1⟩))
        refine (zzStr_shape hb1 rfl rfl hp (by omega) hcap1).mono ?_
        rintro e w2 ⟨hB2, hr⟩
        rcases hr with ⟨o, m, v, a2, cap2, hpo, hom, rfl, hbv, hsh⟩ | ⟨rfl, hx⟩
        · have hb2 := hb1.belowAll hB2
          have hB := below_step hB1 hB2
          clear hB1 hB2 hb1
          go_upto_region 13 with fail
          simp only [show ((o : Int) + (m : Int) + 2 - (m : Int) - 2) = (o : Int) from by omega]
          obtain ⟨bd, off, c1, rfl, hc1, hd1⟩ := hb2.atH (i := o) (by omega)
          obtain rfl : c1 = 34 := (List.cons.inj (hd1.out.symm.trans hsh.openq)).1
          obtain ⟨bd', off', c2, ea, hc2, hd2⟩ := hb2.atH (i := o + m + 1) (by omega)
          cases ea
          obtain rfl : c2 = 34 := by
            have e1 : zs.drop (o + m + 1) = 34 :: zs.drop (o + m + 2) := by
              have := congrArg (List.drop m) hsh.text
              rw [List.drop_drop, show o + 1 + m = o + m + 1 from by omega, List.drop_left' hsh.len] at this
              exact this
            exact (List.cons.inj (hd2.out.symm.trans e1)).1
          have hc2 : w2.cell? ⟨bd, off + (o + m + 1), none⟩ = some (.int .u8 34) := hc2
          clear hd1 hd2
          have t54 : decide (o < p) = false := by simp; omega
          have t59 : decide ((zs.length : Int) < (o : Int) + m + 2) = false := by simp; omega
          go_wp2
          clear t54 t59
          simp only [show o + m + 2 - 1 = o + m + 1 from by omega]
          go_loop [10] (fun t => ∃ j : Nat, p ≤ j ∧ j ≤ o ∧ t = .int .i64 j) (fun t => o - (intOf t).toNat)
          case atStart => exact ⟨p, Nat.le_refl _, hpo, rfl⟩
          case round =>
          clear hc1 hc2
          obtain ⟨j, hj0, hj, rfl⟩ := hrel
          by_cases hlt : j < o
          · obtain ⟨bd', off', c, ea, hc, hdr⟩ := hb2.atH (i := j) (by omega)
            cases ea
            have hws : Pl.isWS c = true := by
              have e := hsh.space j hj0 hlt
              have := drop_at (zs := zs) (i := j) (by omega)
              rw [hdr.out] at this
              rwa [← (List.cons.inj this).1] at e
            go_wp2_with (go_at_call 24; refine (isWS_any _ _).mono ?_; rintro e w' ⟨rfl, rfl⟩)
            go_round
            case rel => exact ⟨j + 1, by omega, by omega, by go_num⟩
            case measure => simp [intOf]; omega
          · obtain rfl : j = o := by omega
            have hvl := hsh.len
            have hcut : Bs w2 (some ⟨bd, off + (j + 1), none⟩) v := by
              have := hb2.cut (j + 1) (j + m + 1) (by omega)
              rwa [List.drop_take, hsh.text, show j + m + 1 - (j + 1) = v.length from by omega, List.take_left] at this
            have HVL : Hid (v.length = m) := hvl
            clear hvl
            go_wp2_with fail
            refine (eq_same hbv hcut HVL.out.symm (by have := HVL.out; omega) (by have := HVL.out; omega)).mono ?_
            rintro e w3 ⟨rfl, hB3⟩
            have hbv3 := hbv.belowAll hB3
            have hBB := below_step hB hB3
            clear hcut hB hB3 hbv hb2
            go_wp2
            go_loop [11] (fun t => ∃ i : Nat, i ≤ m ∧ t = .int .i64 i) (fun t => m - (intOf t).toNat)
            case atStart => exact ⟨0, Nat.zero_le _, rfl⟩
            case round =>
            obtain ⟨i, hi, rfl⟩ := hrel
            by_cases hlt2 : i < m
            · obtain ⟨bd2, off2, c, rfl, hc, hdr⟩ := hbv3.atH (i := i) (by rw [HVL.out]; exact hlt2)
              have hge : 32 ≤ c := hsh.ctl c (by have := List.mem_of_mem_drop (l := v) (i := i) (a := c) (by rw [hdr.out]; simp); exact this)
              go_wp2
              go_round
              case rel => exact ⟨i + 1, by omega, by go_num⟩
              case measure => simp [intOf]; omega
            · obtain ⟨i0, hi0, hz0, hz1, hz2⟩ := info_parts Try.info5
              go_wp2_with (at_make; refine wpList_make_full _ rfl _ _ 22 rfl w3.heap.size 5 i0 (.int .u8 0) 1 Try.underlying22 hi0 hz0 hz1 .i64 .i64 _ _ (m + 2) rfl rfl (by omega) (by omega) (by rw [hz2]; omega) (by unfold maxLen; omega) (Nat.le_refl _) ?_; intro w4 hown hgrow; have hc40 := (row_made hown rfl).cell (k := 0) (by simp); have hf40 := (row_made hown rfl).free 0)
              have hB4 : Below w3.heap.size w3 w4 := (Below.refl _ _).grown hgrow (Nat.le_refl _) (fun k e => by cases e)
              have hrow := row_made hown rfl
              clear hown hgrow
              have hrow1 := hrow.set 0 34
              have hB41 := hB4.setCell (p := ⟨w3.heap.size, 0, none⟩) (Nat.le_refl _) (.int .u8 34)
              clear hc40 hf40 hrow hB4
              go_wp2
              go_loopw [13] (fun t wr => ∃ (k : Nat) (ys : List Int), k ≤ m ∧ t = .int .i64 k ∧ Hid (ys.length = m + 2 ∧ ys.take (k + 1) = 34 :: v.take k) ∧ Row wr w3.heap.size ys ∧ Below w3.heap.size w3 wr) (fun t _ => m - (intOf t).toNat)
              case atStart => exact ⟨0, _, Nat.zero_le _, rfl, ⟨by simp, by simp [List.replicate_succ]⟩, hrow1, hB41⟩
              case round =>
              clear hrow1 hB41
              obtain ⟨k, ys, hk, rfl, hy, hrow, hB5⟩ := hrel
              by_cases hlt3 : k < m
              · obtain ⟨bd2, off2, c, rfl, hc, hdr⟩ := (hbv3.belowAll hB5).atH (i := k) (by rw [HVL.out]; exact hlt3)
                have hcg : wr.cell? ⟨w3.heap.size, k + 1, none⟩ = some (.int .u8 (ys.getD (k + 1) 0)) := hrow.cell (by rw [hy.out.1]; omega)
                have hfg := hrow.free (k + 1)
                go_wp2
                go_roundw
                case rel => exact ⟨k + 1, ys.set (k + 1) c, by omega, by go_num, alone_step hlt3 HVL hy hdr, hrow.set (k + 1) c, hB5.setCell (Nat.le_refl _) _⟩
                case measure => simp [intOf]; omega
              · obtain rfl : k = m := by omega
                have hcg : wr.cell? ⟨w3.heap.size, k + 1, none⟩ = some (.int .u8 (ys.getD (k + 1) 0)) := hrow.cell (by rw [hy.out.1]; omega)
                have hfg := hrow.free (k + 1)
                go_wp2_with fail
                have hrow6 := hrow.set (k + 1) 34
                have hB6 := hB5.setCell (p := ⟨w3.heap.size, k + 1, none⟩) (Nat.le_refl _) (.int .u8 34)
                rw [alone_end HVL hy] at hrow6
                refine (zzStr_any (zs := 34 :: (v ++ [34])) (p := 0) hrow6.bs (by simp [HVL.out]) rfl (Nat.zero_le _) (by simp [HVL.out]; omega) (by simp [HVL.out])).mono ?_
                rintro e w7 ⟨hB7, hr7⟩
                rcases hr7 with ⟨s, q, a7, cap7, hps, hsq, hq, rfl, hb7, hx7⟩ | ⟨rfl, hx7⟩
                · obtain ⟨rfl, rfl, e7⟩ := alone_read HVL hsh hq hx7
                  rw [e7] at hb7
                  have hbv7 := (hbv3.belowAll hB6).belowAll hB7
                  simp only [show k + 1 - 1 = k from by omega]
                  go_wp2_with (go_at_call 22; refine (eq_same hb7 hbv7 HVL.out.symm HVL.out.symm (by rw [HVL.out]; omega)).mono ?_; rintro e w8 ⟨rfl, hB8⟩)
                  go_ret
                  exact ⟨rfl, below_step (below_step (below_step hBB hB6) hB7) hB8⟩
                · exact absurd hx7.out (by simp [Pl.str, ws_no, Pl.isWS, hsh.again])
        · go_wp2
          go_ret
          exact ⟨rfl, below_step hB1 hB2⟩
  · have hn' : (1048576 : Int) < zs.length := by omega
    go_enter Try.func6, Try.ntmps6
    go_wp2_with (go_at_call 23; refine (bytes23_no _ _ _ _ _ hn).mono ?_; rintro e w' ⟨rfl, rfl⟩)
    go_ret
    exact ⟨rfl, Below.refl _ _⟩
end
end Go.Proofs.Qxb6600109a
