import Derived.Test.Qxb6600109aBuild
import Derived.Test.Qxb6600109aVShape
namespace Go.Proofs.Qxb6600109a
open Go.RowKit

theorem bytes28 (a1 a2 a3 : Option Addr) (n1 n2 n3 k1 k2 k3 : Nat) (w : World) (hn : n1 + n2 + n3 ≤ 1048576) : Calls Try.prog 28 #[.slice a1 n1 k1, .slice a2 n2 k2, .slice a3 n3 k3] w fun e w' => e = .returned (.bool true) ∧ w' = w := by
  have h1 : (n1 : Int) ≤ 1048576 := by omega
  have h2 : (n2 : Int) ≤ 1048576 := by omega
  have h3 : (n3 : Int) ≤ 1048576 := by omega
  have h12 : (n1 : Int) + n2 ≤ 1048576 := by omega
  have h123 : (n1 : Int) + n2 + n3 ≤ 1048576 := by omega
  go_enter Try.func28, Try.ntmps28
  go_wp2
  go_ret
  exact ⟨rfl, rfl⟩
theorem bytes28_no (a1 a2 a3 : Option Addr) (n1 n2 n3 k1 k2 k3 : Nat) (w : World) (hn : ¬ n1 + n2 + n3 ≤ 1048576) : Calls Try.prog 28 #[.slice a1 n1 k1, .slice a2 n2 k2, .slice a3 n3 k3] w fun e w' => e = .returned (.bool false) ∧ w' = w := by
  by_cases h1 : (1048576 : Int) < n1
  · go_enter Try.func28, Try.ntmps28
    go_wp2
    go_ret
    exact ⟨rfl, rfl⟩
  · by_cases h2 : (1048576 : Int) < n2
    · go_enter Try.func28, Try.ntmps28
      go_wp2
      go_ret
      exact ⟨rfl, rfl⟩
    · by_cases h12 : (1048576 : Int) < (n1 : Int) + n2
      · go_enter Try.func28, Try.ntmps28
        go_wp2
        go_ret
        exact ⟨rfl, rfl⟩
      · by_cases h3 : (1048576 : Int) < n3
        · go_enter Try.func28, Try.ntmps28
          go_wp2
          go_ret
          exact ⟨rfl, rfl⟩
        · have h123 : (1048576 : Int) < (n1 : Int) + n2 + n3 := by omega
          go_enter Try.func28, Try.ntmps28
          go_wp2
          go_ret
          exact ⟨rfl, rfl⟩


theorem take_map_next {pd : List Int} {k : Nat} {c : Int} (hk : k < pd.length) (hd : pd.drop k = c :: pd.drop (k + 1)) : (pd.take (k + 1)).map Pl.wsb = (pd.take k).map Pl.wsb ++ [Pl.wsb c] := by
  have hc : pd[k] = c := by
    have := List.drop_eq_getElem_cons hk
    rw [hd] at this
    exact (List.cons.inj this).1.symm
  rw [List.take_succ_eq_append_getElem hk, hc]
  simp

def Pl.map8 (pd T tl : List Int) : List Int := pd.map Pl.wsb ++ T ++ [32] ++ tl
theorem map8_eq (pd T tl : List Int) : Pl.map8 pd T tl = pd.map Pl.wsb ++ (T ++ 32 :: tl) := by simp [Pl.map8]

/-- What ZZValue reads of a built text. -/
theorem map8_read (ops pd tl : List Int) (n : Nat) : ∃ F, fuel n ≤ F ∧ Pl.ws (Pl.map8 pd (Pl.gen 200 ops).1 tl) = (Pl.gen 200 ops).1 ++ 32 :: tl ∧ Pl.val F 0 true 0 (Pl.map8 pd (Pl.gen 200 ops).1 tl) = some (32 :: tl) := by
  obtain ⟨f0, hf⟩ := gen_reads 200 ops 0 (32 :: tl) (by omega) (delim_cons (by simp) _)
  obtain ⟨c, s, e, hc, _⟩ := gen_head 200 ops
  have hw : Pl.ws (Pl.map8 pd (Pl.gen 200 ops).1 tl) = (Pl.gen 200 ops).1 ++ 32 :: tl := by
    rw [map8_eq, ws_map, e, List.cons_append, ws_no hc]
  refine ⟨f0 + fuel n, by omega, hw, ?_⟩
  rw [val_ws, hw]
  exact hf _ (by omega)

theorem map8_end {pd T tl : List Int} {F s q : Nat} (hsq : s < q) (hq : q ≤ (Pl.map8 pd T tl).length) (HR : Hid (Pl.ws (Pl.map8 pd T tl) = T ++ 32 :: tl ∧ Pl.val F 0 true 0 (Pl.map8 pd T tl) = some (32 :: tl)))
    (hws : Hid (Pl.ws ((Pl.map8 pd T tl).drop 0) = (Pl.map8 pd T tl).drop s)) (hx : Hid (Pl.val F 0 true 0 ((Pl.map8 pd T tl).drop 0) = some ((Pl.map8 pd T tl).drop q))) :
    s = pd.length ∧ q = pd.length + T.length ∧ ((Pl.map8 pd T tl).take q).drop s = T := by
  have h1 := hws.out
  have h2 := hx.out
  obtain ⟨r1, r2⟩ := HR.out
  have hl : (Pl.map8 pd T tl).length = pd.length + T.length + 1 + tl.length := by rw [map8_eq]; simp; omega
  rw [List.drop_zero] at h1 h2
  rw [r1] at h1
  rw [r2] at h2
  have l1 := congrArg List.length h1
  have l2 := congrArg (fun x => (x.getD []).length) h2
  simp at l1 l2
  refine ⟨by omega, by omega, ?_⟩
  rw [List.drop_take, ← h1, show q - s = T.length from by omega, List.take_left]

section
variable {w : World} {a1 a2 a3 : Option Addr} {c1 c2 c3 : Nat} {ops pd tl : List Int}

set_option maxRecDepth 100000 in
set_option maxHeartbeats 2000000 in
theorem law8 (h1 : Bs w a1 ops) (h2 : Bs w a2 pd) (h3 : Bs w a3 tl) (g1 : ∀ c ∈ ops, 0 ≤ c ∧ c ≤ 255) (g2 : ∀ c ∈ pd, 0 ≤ c ∧ c ≤ 255) (g3 : ∀ c ∈ tl, 0 ≤ c ∧ c ≤ 255) :
    Calls Try.prog 8 #[.slice a1 ops.length c1, .slice a2 pd.length c2, .slice a3 tl.length c3] w fun e w' => e = .returned (.bool true) ∧ Below w.heap.size w w' := by
  by_cases hn : ops.length + pd.length + tl.length ≤ 1048576
  · by_cases n1 : (4096 : Int) < ops.length
    · go_enter Try.func8, Try.ntmps8
      go_wp2_with (go_at_call 28; refine (bytes28 _ _ _ _ _ _ _ _ _ _ hn).mono ?_; rintro e w' ⟨rfl, rfl⟩)
      go_ret
      exact ⟨rfl, Below.refl _ _⟩
    · by_cases n2 : (65536 : Int) < pd.length
      · go_enter Try.func8, Try.ntmps8
        go_wp2_with (go_at_call 28; refine (bytes28 _ _ _ _ _ _ _ _ _ _ hn).mono ?_; rintro e w' ⟨rfl, rfl⟩)
        go_ret
        exact ⟨rfl, Below.refl _ _⟩
      · by_cases n3 : (65536 : Int) < tl.length
        · go_enter Try.func8, Try.ntmps8
          go_wp2_with (go_at_call 28; refine (bytes28 _ _ _ _ _ _ _ _ _ _ hn).mono ?_; rintro e w' ⟨rfl, rfl⟩)
          go_ret
          exact ⟨rfl, Below.refl _ _⟩
        · go_enter Try.func8, Try.ntmps8
          go_wp2_with (go_at_call 28; refine (bytes28 _ _ _ _ _ _ _ _ _ _ hn).mono ?_; rintro e w' ⟨rfl, hw⟩; obtain rfl := hw.symm)
          refine (clone_own h1 rfl (by omega)).mono ?_
          rintro e w1 ⟨v1, rfl, o1, B1⟩
          obtain ⟨b1, k1, rfl, s1, _⟩ := o1.slice
          go_wp2_with fail
          refine (clone_own (h2.belowAll B1) rfl (by omega)).mono ?_
          rintro e w2 ⟨v2, rfl, o2, B2⟩
          obtain ⟨b2, k2, rfl, s2, _⟩ := o2.slice
          go_wp2_with fail
          refine (clone_own ((h3.belowAll B1).belowAll B2) rfl (by omega)).mono ?_
          rintro e w3 ⟨v3, rfl, o3, B3⟩
          obtain ⟨b3, k3, rfl, s3, _⟩ := o3.slice
          go_wp2_with fail
          refine (build_any ((s1.belowAll B2).belowAll B3) rfl (by omega) g1).mono ?_
          rintro e w4 ⟨v4, rfl, o4, B4⟩
          obtain ⟨b4, k4, rfl, s4, _⟩ := o4.slice
          have s2' := (s2.belowAll B3).belowAll B4
          have o3' := o3.below B4 (Nat.le_refl _)
          have BB := below_step (below_step (below_step B1 B2) B3) B4
          clear o1 o2 o3 s1 s2 s3 B1 B2 B3 B4 h1 h2 h3
          have hel := gen_len 200 ops
          have HBY : Hid (Byts (Pl.gen 200 ops).1) := gen_by 200 ops
          obtain ⟨F, hF, r1, r2⟩ := map8_read ops pd tl (Pl.map8 pd (Pl.gen 200 ops).1 tl).length
          have HR : Hid (Pl.ws (Pl.map8 pd (Pl.gen 200 ops).1 tl) = (Pl.gen 200 ops).1 ++ 32 :: tl ∧ Pl.val F 0 true 0 (Pl.map8 pd (Pl.gen 200 ops).1 tl) = some (32 :: tl)) := ⟨r1, r2⟩
          have HF : Hid (fuel (Pl.map8 pd (Pl.gen 200 ops).1 tl).length ≤ F) := hF
          clear r1 r2 hF
          generalize (Pl.gen 200 ops).1 = E at *
          have hE1 : (E.length : Int) ≤ 1048576 := by omega
          obtain ⟨i0, hi, hz0, hz1, hz2⟩ := info_parts Try.info5
          go_wp2_with (at_make; refine wpList_make_own _ rfl _ _ 22 rfl w4.heap.size 5 i0 (.int .u8 0) 1 Try.underlying22 hi hz0 hz1 .i64 .i64 _ (pd.length + E.length + 1 + tl.length) rfl rfl (by omega) (by rw [hz2]; omega) (by unfold maxLen; omega) (Nat.le_refl _) ?_; intro w5 hown hgrow)
          have hb : Below w4.heap.size w4 w5 := (Below.refl _ _).grown hgrow (Nat.le_refl _) (fun k e => by cases e)
          have hown : Own w5 w4.heap.size _ [] := hown
          clear hgrow
          go_loopw [9, 10] (fun v t wr => ∃ k : Nat, k ≤ pd.length ∧ t = .int .i64 k ∧ Own wr w4.heap.size v ((pd.take k).map Pl.wsb) ∧ Below w4.heap.size w4 wr) (fun _ t _ => pd.length - (intOf t).toNat)
          case atStart => exact ⟨0, Nat.zero_le _, rfl, hown, hb⟩
          case round =>
          clear hown hb
          obtain ⟨k, hk, rfl, hown, hb⟩ := hrel
          have hsz := hb.size
          by_cases hlt : k < pd.length
          · obtain ⟨bd, off, c, rfl, hc, hdr⟩ := (s2'.belowAll hb).atH hlt
            have hcb := g2 c (List.mem_of_mem_drop (i := k) (by rw [hdr.out]; simp))
            obtain ⟨hc0, hc1⟩ := hcb
            go_wp2_with (first | (go_at_call 20; refine (wsb_any _ _ hc0 hc1).mono ?_; rintro e w' ⟨rfl, hw⟩; obtain rfl := hw.symm) | (at_builtin; refine wp_app (zs := [_]) rfl _ _ rfl rfl (hown.alloc _) rfl rfl (new_bs _ [_]) (by simp; omega) (by simp; omega) ?_; intro v' w6 hown2 hgrow2))
            go_roundw
            case rel => exact ⟨k + 1, by omega, by go_num, by rw [take_map_next hlt hdr.out]; exact hown2, (hb.alloc hsz _).grown hgrow2 (by simp; omega) hown.block_ge⟩
            case measure => simp [intOf]; omega
          · rw [List.take_of_length_le (by omega)] at hown
            go_upto_region 22 with (at_builtin; refine wp_app_own rfl _ _ rfl rfl hown rfl (o4.below hb (Nat.le_refl _)) (by simp; omega) (by omega) ?_; intro v7 w7 hown7 hgrow7)
            have hb7 := hb.grown hgrow7 hsz hown.block_ge
            have hsz7 := hb7.size
            clear hgrow7 hown hb
            go_upto_region 23 with (at_builtin; refine wp_app (zs := [32]) rfl _ _ rfl rfl (hown7.alloc _) rfl rfl (new_bs _ [32]) (by simp; omega) (by simp; omega) ?_; intro v8 w8 hown8 hgrow8)
            have hb8 := (hb7.alloc hsz7 (.cells #[.int .u8 32] 5)).grown hgrow8 (by simp; omega) hown7.block_ge
            have hsz8 := hb8.size
            clear hgrow8 hown7 hb7
            go_upto_region 24 with (at_builtin; refine wp_app_own rfl _ _ rfl rfl hown8 rfl (o3'.below hb8 (Nat.le_refl _)) (by simp; omega) (by omega) ?_; intro v9 w9 hown9 hgrow9)
            have hb9 := hb8.grown hgrow9 hsz8 hown8.block_ge
            clear hgrow9 hown8 hb8
            obtain ⟨b9, k9, rfl, s9, hk9⟩ := hown9.slice
            have hD : Hid (Pl.map8 pd E tl = pd.map Pl.wsb ++ E ++ [32] ++ tl) := rfl
            rw [← hD.out] at s9 hk9 hown9
            have hDl : (Pl.map8 pd E tl).length = pd.length + E.length + 1 + tl.length := by rw [hD.out]; simp; omega
            have HDL : Hid ((Pl.map8 pd E tl).length = pd.length + E.length + 1 + tl.length) := hDl
            have HDB : Hid (Byts (Pl.map8 pd E tl)) := by
              show Byts _
              rw [hD.out]
              refine Byts.app (Byts.app (Byts.app ?_ HBY.out) (byts_lit rfl)) g3
              intro c hc
              obtain ⟨y, _, rfl⟩ := List.mem_map.1 hc
              unfold Pl.wsb
              repeat' split
              all_goals omega
            go_wp2_with fail
            refine (zzValue_any (zs := Pl.map8 pd E tl) (p := 0) s9 (by have := HDL.out; omega) rfl (Nat.zero_le _) (by omega) hk9 HDB.out HF.out).mono ?_
            rintro e w10 ⟨hB10, hr⟩
            have hB11 := below_step (below_step BB hb9) hB10
            have o4' := (o4.below hb9 (Nat.le_refl _)).below hB10 (Nat.le_refl _)
            clear hDl
            rcases hr with ⟨s, q, a10, k10, hps, hsq, hq, rfl, hb10, hws, hx⟩ | ⟨v10, dp, rfl, hx⟩
            · obtain ⟨rfl, rfl, e10⟩ := map8_end hsq hq HR hws hx
              rw [e10] at hb10
              obtain ⟨_, _, e4, s4', _⟩ := o4'.slice
              cases e4
              go_wp2_with (go_at_call 22; refine (eq_same hb10 s4' (by omega) rfl (by omega)).mono ?_; rintro e w11 ⟨rfl, hB12⟩)
              go_ret
              exact ⟨rfl, below_step hB11 hB12⟩
            · exact absurd hx.out (by rw [List.drop_zero, HR.out.2]; simp)
  · go_enter Try.func8, Try.ntmps8
    go_wp2_with (go_at_call 28; refine (bytes28_no _ _ _ _ _ _ _ _ _ _ hn).mono ?_; rintro e w' ⟨rfl, rfl⟩)
    go_ret
    exact ⟨rfl, Below.refl _ _⟩
end
end Go.Proofs.Qxb6600109a
