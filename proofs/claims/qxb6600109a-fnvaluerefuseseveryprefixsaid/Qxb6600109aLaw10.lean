import Derived.Test.Qxb6600109aPair
namespace Go.Proofs.Qxb6600109a
open Go.RowKit

theorem bytes32 (a : Option Addr) (n cap : Nat) (k : Int) (w : World) (hn : n ≤ 1048576) : Calls Try.prog 32 #[.slice a n cap, .int .u32 k] w fun e w' => e = .returned (.bool true) ∧ w' = w := by
  have hn' : (n : Int) ≤ 1048576 := by omega
  go_enter Try.func32, Try.ntmps32
  go_wp2
  go_ret
  exact ⟨rfl, rfl⟩
theorem bytes32_no (a : Option Addr) (n cap : Nat) (k : Int) (w : World) (hn : ¬ n ≤ 1048576) : Calls Try.prog 32 #[.slice a n cap, .int .u32 k] w fun e w' => e = .returned (.bool false) ∧ w' = w := by
  have hn' : (1048576 : Int) < n := by omega
  go_enter Try.func32, Try.ntmps32
  go_wp2
  go_ret
  exact ⟨rfl, rfl⟩

/-- What ZZValue reads of a text that it reads whole. -/
theorem whole_end {T : List Int} {F s q : Nat} {c : Int} {r : List Int} (eT : T = c :: r) (hc : Pl.isWS c = false) (hsq : s < q) (hq : q ≤ T.length) (HR : Pl.val F 0 true 0 T = some [])
    (hws : Hid (Pl.ws (T.drop 0) = T.drop s)) (hx : Hid (Pl.val F 0 true 0 (T.drop 0) = some (T.drop q))) : s = 0 ∧ q = T.length ∧ (T.take q).drop s = T := by
  have h1 := hws.out
  have h2 := hx.out
  rw [List.drop_zero] at h1 h2
  rw [HR] at h2
  have hwT : Pl.ws T = T := by rw [eT, ws_no hc]
  rw [hwT] at h1
  have l1 := congrArg List.length h1
  have l2 := congrArg (fun x => (x.getD []).length) h2
  simp at l1 l2
  obtain rfl : s = 0 := by omega
  obtain rfl : q = T.length := by omega
  exact ⟨rfl, rfl, by rw [List.drop_zero, List.take_of_length_le (Nat.le_refl _)]⟩

theorem pre_step {T ys : List Int} {m j : Nat} {c : Int} (hlt : j < m) (hm : m ≤ T.length) (hy : Hid (ys.length = m ∧ ys.take j = T.take j)) (hdr : Hid (T.drop j = c :: T.drop (j + 1))) :
    Hid ((ys.set j c).length = m ∧ (ys.set j c).take (j + 1) = T.take (j + 1)) := by
  obtain ⟨h1, h2⟩ := hy.out
  have hl : j < T.length := by omega
  have hc : T[j] = c := by
    have := List.drop_eq_getElem_cons hl
    rw [hdr.out] at this
    exact (List.cons.inj this).1.symm
  refine ⟨by simp [h1], ?_⟩
  rw [List.take_succ_eq_append_getElem (by simpa using by omega), List.take_succ_eq_append_getElem hl, List.take_set_of_le (by omega), h2, List.getElem_set_self, hc]

section
variable {w : World} {a : Option Addr} {cap : Nat} {ops : List Int} {k : Int}

set_option maxRecDepth 100000 in
set_option maxHeartbeats 2000000 in
theorem law10 (h : Bs w a ops) (hby : ∀ c ∈ ops, 0 ≤ c ∧ c ≤ 255) (hk0 : 0 ≤ k) (hk1 : k ≤ 4294967295) : Calls Try.prog 10 #[.slice a ops.length cap, .int .u32 k] w fun e w' => e = .returned (.bool true) ∧ Below w.heap.size w w' := by
  by_cases hn : ops.length ≤ 1048576
  · by_cases n1 : (4096 : Int) < ops.length
    · go_enter Try.func10, Try.ntmps10
      go_wp2_with (go_at_call 32; refine (bytes32 _ _ _ _ _ hn).mono ?_; rintro e w' ⟨rfl, rfl⟩)
      go_ret
      exact ⟨rfl, Below.refl _ _⟩
    · go_enter Try.func10, Try.ntmps10
      go_wp2_with (go_at_call 32; refine (bytes32 _ _ _ _ _ hn).mono ?_; rintro e w' ⟨rfl, hw⟩; obtain rfl := hw.symm)
      refine (clone_own h rfl (by omega)).mono ?_
      rintro e w1 ⟨v1, rfl, o1, B1⟩
      obtain ⟨b1, k1, rfl, s1, _⟩ := o1.slice
      go_wp2_with fail
      refine (pair_any s1 rfl (by omega) hby).mono ?_
      rintro e w2 ⟨v2, rfl, o2, B2⟩
      obtain ⟨b2, k2, rfl, s2, hk2⟩ := o2.slice
      have BB := below_step B1 B2
      clear o1 s1 B1 B2 h
      have hel := pair_len ops
      have HBY : Hid (Byts (Pl.pairT ops)) := pair_by ops
      obtain ⟨F, hF, r2⟩ := pair_reads ops (Pl.pairT ops).length
      have HF : Hid (fuel (Pl.pairT ops).length ≤ F) := hF
      have HR : Hid (Pl.val F 0 true 0 (Pl.pairT ops) = some []) := r2
      obtain ⟨rest, eT⟩ : ∃ rest, Pl.pairT ops = 91 :: rest := ⟨_, rfl⟩
      have HP : Hid (∀ m, m < (Pl.pairT ops).length → Pl.val F 0 true 0 ((Pl.pairT ops).take m) = none) := by
        intro m hm
        rw [eT] at r2 hm ⊢
        exact prefix_none r2 hm
      have HT : Hid (Pl.pairT ops = 91 :: rest) := eT
      clear r2 hF
      have hpos : 0 < (Pl.pairT ops).length := by rw [eT]; simp
      clear eT
      generalize Pl.pairT ops = T at *
      have hT1 : (T.length : Int) ≤ 1048576 := by omega
      go_wp2_with fail
      refine (zzValue_any (F := F) (p := 0) s2 rfl rfl (Nat.zero_le _) (by omega) hk2 HBY.out HF.out).mono ?_
      rintro e w3 ⟨hB3, hr⟩
      have s3 := s2.belowAll hB3
      have BB3 := below_step BB hB3
      rcases hr with ⟨s, q, a3, k3, hps, hsq, hq, rfl, hb3, hws, hx⟩ | ⟨v3, dp, rfl, hx⟩
      · obtain ⟨rfl, rfl, e3⟩ := whole_end HT.out (by decide) hsq hq HR.out hws hx
        rw [e3] at hb3
        go_wp2_with fail
        refine (eq_same hb3 s3 rfl rfl (by omega)).mono ?_
        rintro e w4 ⟨rfl, hB4⟩
        have s4 := s3.belowAll hB4
        have BB4 := below_step BB3 hB4
        clear s2 s3 hb3 hB3 hB4 BB BB3 hws hx e3 o2
        obtain ⟨m, hm⟩ : ∃ m : Nat, k % (T.length : Int) = (m : Int) := ⟨(k % (T.length : Int)).toNat, by have := Int.emod_nonneg k (show (T.length : Int) ≠ 0 by omega); omega⟩
        have hmT : m < T.length := by have := Int.emod_lt_of_pos k (show (0 : Int) < T.length by omega); omega
        go_upto_region 13 with fail
        clear hm
        obtain ⟨i0, hi0, hz0, hz1, hz2⟩ := info_parts Try.info5
        go_wp2_with (at_make; refine wpList_make_full _ rfl _ _ 22 rfl w4.heap.size 5 i0 (.int .u8 0) 1 Try.underlying22 hi0 hz0 hz1 .i64 .i64 _ _ m rfl rfl (by omega) (by omega) (by rw [hz2]; omega) (by unfold maxLen; omega) (Nat.le_refl _) ?_; intro w5 hown hgrow)
        have hB5 : Below w4.heap.size w4 w5 := (Below.refl _ _).grown hgrow (Nat.le_refl _) (fun k e => by cases e)
        have hrow := row_made hown rfl
        clear hown hgrow
        go_loopw [12] (fun t wr => ∃ (j : Nat) (ys : List Int), j ≤ m ∧ t = .int .i64 j ∧ Hid (ys.length = m ∧ ys.take j = T.take j) ∧ Row wr w4.heap.size ys ∧ Below w4.heap.size w4 wr) (fun t _ => m - (intOf t).toNat)
        case atStart => exact ⟨0, _, Nat.zero_le _, rfl, ⟨by simp, by simp⟩, hrow, hB5⟩
        case round =>
        clear hrow hB5
        obtain ⟨j, ys, hj, rfl, hy, hrow, hB5⟩ := hrel
        by_cases hlt3 : j < m
        · obtain ⟨bd, off, c, rfl, hc, hdr⟩ := (s4.belowAll hB5).atH (i := j) (by omega)
          have hcg : wr.cell? ⟨w4.heap.size, j, none⟩ = some (.int .u8 (ys.getD j 0)) := hrow.cell (by rw [hy.out.1]; omega)
          have hfg := hrow.free j
          go_wp2
          go_roundw
          case rel => exact ⟨j + 1, ys.set j c, by omega, by go_num, pre_step hlt3 (by omega) hy hdr, hrow.set j c, hB5.setCell (Nat.le_refl _) _⟩
          case measure => simp [intOf]; omega
        · obtain rfl : ys = T.take m := by
            have h1 := hy.out.2
            rwa [List.take_of_length_le (by rw [hy.out.1]; omega), show j = m from by omega] at h1
          have hTl : (T.take m).length = m := by simp; omega
          have HTL : Hid ((T.take m).length = m) := hTl
          clear hTl
          go_wp2_with fail
          refine (zzValue_any (F := F) (p := 0) hrow.bs HTL.out.symm rfl (Nat.zero_le _) (by have := HTL.out; omega) (by have := HTL.out; omega) (fun c hc => HBY.out c (List.mem_of_mem_take hc)) (by have := HTL.out; have := HF.out; unfold fuel at *; omega)).mono ?_
          rintro e w7 ⟨hB7, hr7⟩
          rcases hr7 with ⟨s2, q2, a7, cap7, hps2, hsq2, hq2, rfl, hb7, hws7, hx7⟩ | ⟨v7, dp7, rfl, hx7⟩
          · exact absurd hx7.out (by rw [List.drop_zero, HP.out m hmT]; simp)
          · simp only [HTL.out]
            go_wp2
            go_ret
            exact ⟨rfl, below_step (below_step BB4 hB5) hB7⟩
      · exact absurd hx.out (by rw [List.drop_zero, HR.out]; simp)
  · go_enter Try.func10, Try.ntmps10
    go_wp2_with (go_at_call 32; refine (bytes32_no _ _ _ _ _ hn).mono ?_; rintro e w' ⟨rfl, rfl⟩)
    go_ret
    exact ⟨rfl, Below.refl _ _⟩
end
end Go.Proofs.Qxb6600109a
