import Derived.Test.Qxb6600109aPad
namespace Go.Proofs.Qxb6600109a
open Go.RowKit

theorem take_map_snoc {pd : List Int} {k : Nat} {c : Int} (hk : k < pd.length) (hd : pd.drop k = c :: pd.drop (k + 1)) : (pd.take (k + 1)).map Pl.wsb = (pd.take k).map Pl.wsb ++ [Pl.wsb c] := by
  have hc : pd[k] = c := by
    have := List.drop_eq_getElem_cons hk
    rw [hd] at this
    exact (List.cons.inj this).1.symm
  rw [List.take_succ_eq_append_getElem hk, hc]
  simp

def Pl.map5 (pd E tl : List Int) : List Int := pd.map Pl.wsb ++ [34] ++ E ++ [34] ++ tl
theorem map5_eq (pd E tl : List Int) : Pl.map5 pd E tl = pd.map Pl.wsb ++ 34 :: (E ++ 34 :: tl) := by simp [Pl.map5]
theorem map5_ws (pd E tl : List Int) : Pl.ws (Pl.map5 pd E tl) = 34 :: (E ++ 34 :: tl) := by
  rw [map5_eq, ws_map, ws_no (by decide)]
theorem map5_strB {bs E : List Int} (tl : List Int) (hE : Hid (Pl.enc bs = E)) (g : ∀ c ∈ bs, 0 ≤ c ∧ c ≤ 255) : Pl.strB (E ++ 34 :: tl) = some tl := by
  rw [← hE.out, strB_enc _ _ (fun c hc => (g c hc).1), strB_quote]
theorem map5_str {bs pd E tl : List Int} (hE : Hid (Pl.enc bs = E)) (g : ∀ c ∈ bs, 0 ≤ c ∧ c ≤ 255) : ¬ Pl.str ((Pl.map5 pd E tl).drop 0) = none := by
  rw [List.drop_zero, Pl.str, map5_ws]
  simp [map5_strB tl hE g]
theorem map5_read {bs pd E tl : List Int} {s q : Nat} (hE : Hid (Pl.enc bs = E)) (g : ∀ c ∈ bs, 0 ≤ c ∧ c ≤ 255)
    (hx : Hid (Pl.ws ((Pl.map5 pd E tl).drop 0) = 34 :: (Pl.map5 pd E tl).drop s ∧ Pl.strB ((Pl.map5 pd E tl).drop s) = some ((Pl.map5 pd E tl).drop (q + 1)))) (hq : q < (Pl.map5 pd E tl).length) :
    s = pd.length + 1 ∧ q = pd.length + 1 + E.length ∧ ((Pl.map5 pd E tl).take q).drop s = E := by
  obtain ⟨h1, h2⟩ := hx.out
  have hl : (Pl.map5 pd E tl).length = pd.length + E.length + 2 + tl.length := by rw [map5_eq]; simp; omega
  rw [List.drop_zero, map5_ws] at h1
  have h1' := (List.cons.inj h1).2
  have l1 := congrArg List.length h1'
  simp at l1
  rw [← h1', map5_strB tl hE g] at h2
  have l2 := congrArg (fun x => (x.getD []).length) h2
  simp at l2
  refine ⟨by omega, by omega, ?_⟩
  rw [List.drop_take, ← h1', show q - s = E.length from by omega, List.take_left]

section
variable {w : World} {a1 a2 a3 : Option Addr} {c1 c2 c3 : Nat} {bs pd tl : List Int}

set_option maxRecDepth 100000 in
set_option maxHeartbeats 2000000 in
theorem law5 (h1 : Bs w a1 bs) (h2 : Bs w a2 pd) (h3 : Bs w a3 tl) (g1 : ∀ c ∈ bs, 0 ≤ c ∧ c ≤ 255) (g2 : ∀ c ∈ pd, 0 ≤ c ∧ c ≤ 255) :
    Calls Try.prog 5 #[.slice a1 bs.length c1, .slice a2 pd.length c2, .slice a3 tl.length c3] w fun e w' => e = .returned (.bool true) ∧ Below w.heap.size w w' := by
  by_cases hn : bs.length + pd.length + tl.length ≤ 1048576
  · by_cases n1 : (65536 : Int) < bs.length
    · go_enter Try.func5, Try.ntmps5
      go_wp2_with (go_at_call 18; refine (bytes18 _ _ _ _ _ _ _ _ _ _ hn).mono ?_; rintro e w' ⟨rfl, rfl⟩)
      go_ret
      exact ⟨rfl, Below.refl _ _⟩
    · by_cases n2 : (65536 : Int) < pd.length
      · go_enter Try.func5, Try.ntmps5
        go_wp2_with (go_at_call 18; refine (bytes18 _ _ _ _ _ _ _ _ _ _ hn).mono ?_; rintro e w' ⟨rfl, rfl⟩)
        go_ret
        exact ⟨rfl, Below.refl _ _⟩
      · by_cases n3 : (65536 : Int) < tl.length
        · go_enter Try.func5, Try.ntmps5
          go_wp2_with (go_at_call 18; refine (bytes18 _ _ _ _ _ _ _ _ _ _ hn).mono ?_; rintro e w' ⟨rfl, rfl⟩)
          go_ret
          exact ⟨rfl, Below.refl _ _⟩
        · go_enter Try.func5, Try.ntmps5
          go_wp2_with (go_at_call 18; refine (bytes18 _ _ _ _ _ _ _ _ _ _ hn).mono ?_; rintro e w' ⟨rfl, hw⟩; obtain rfl := hw.symm)
          refine (clone_own h1 rfl (by omega)).mono ?_
          rintro e w1 ⟨v1, rfl, o1, B1⟩
          obtain ⟨b1, k1, rfl, s1, _⟩ := o1.slice
          go_wp2_with fail
          refine (clone_own (h2.belowAll B1) rfl (by omega)).mono ?_
          rintro e w2 ⟨v2, rfl, o2, B2⟩
          obtain ⟨b2, k2, rfl, s2, _⟩ := o2.slice
          go_wp2_with fail
          refine (clone_own ((h3.belowAll B1).belowAll B2) rfl (by omega)).mono ?_
          rintro e w3 ⟨v3, rfl, o3, B3⟩
          obtain ⟨b3, k3, rfl, s3, _⟩ := o3.slice
          go_wp2_with fail
          refine (enc_any ((s1.belowAll B2).belowAll B3) rfl (by omega) g1).mono ?_
          rintro e w4 ⟨v4, rfl, o4, B4⟩
          obtain ⟨b4, k4, rfl, s4, _⟩ := o4.slice
          have s2' := (s2.belowAll B3).belowAll B4
          have o3' := o3.below B4 (Nat.le_refl _)
          have BB := below_step (below_step (below_step B1 B2) B3) B4
          clear o1 o2 o3 s1 s2 s3 B1 B2 B3 B4 h1 h2 h3
          have hel := Pl.enc_len bs
          have HEL : Hid ((Pl.enc bs).length ≤ 6 * bs.length) := hel
          generalize hE : Pl.enc bs = E at *
          have HE : Hid (Pl.enc bs = E) := hE
          clear hE
          obtain ⟨i0, hi, hz0, hz1, hz2⟩ := info_parts Try.info5
          go_wp2_with (at_make; refine wpList_make_own _ rfl _ _ 22 rfl w4.heap.size 5 i0 (.int .u8 0) 1 Try.underlying22 hi hz0 hz1 .i64 .i64 _ (pd.length + E.length + 2 + tl.length) rfl rfl (by omega) (by rw [hz2]; omega) (by unfold maxLen; omega) (Nat.le_refl _) ?_; intro w5 hown hgrow)
          have hb : Below w4.heap.size w4 w5 := (Below.refl _ _).grown hgrow (Nat.le_refl _) (fun k e => by cases e)
          have hown : Own w5 w4.heap.size _ [] := hown
          clear hgrow
          go_loopw [9, 10] (fun v t wr => ∃ k : Nat, k ≤ pd.length ∧ t = .int .i64 k ∧ Own wr w4.heap.size v ((pd.take k).map Pl.wsb) ∧ Below w4.heap.size w4 wr) (fun _ t _ => pd.length - (intOf t).toNat)
          case atStart => exact ⟨0, Nat.zero_le _, rfl, hown, hb⟩
          case round =>
          clear hown hb
          obtain ⟨k, hk, rfl, hown, hb⟩ := hrel
          have hsz := hb.size
          by_cases hlt : k < pd.length
          · obtain ⟨bd, off, c, rfl, hc, hdr⟩ := (s2'.belowAll hb).atH hlt
            have hcb := g2 c (List.mem_of_mem_drop (i := k) (by rw [hdr.out]; simp))
            obtain ⟨hc0, hc1⟩ := hcb
            go_wp2_with (first | (go_at_call 20; refine (wsb_any _ _ hc0 hc1).mono ?_; rintro e w' ⟨rfl, hw⟩; obtain rfl := hw.symm) | (at_builtin; refine wp_app (zs := [_]) rfl _ _ rfl rfl (hown.alloc _) rfl rfl (new_bs _ [_]) (by simp; omega) (by simp; omega) ?_; intro v' w6 hown2 hgrow2))
            go_roundw
            case rel => exact ⟨k + 1, by omega, by go_num, by rw [take_map_snoc hlt hdr.out]; exact hown2, (hb.alloc hsz _).grown hgrow2 (by simp; omega) hown.block_ge⟩
            case measure => simp [intOf]; omega
          · rw [List.take_of_length_le (by omega)] at hown
            go_upto_region 20 with (at_builtin; refine wp_app (zs := [34]) rfl _ _ rfl rfl (hown.alloc _) rfl rfl (new_bs _ [34]) (by simp; omega) (by simp; omega) ?_; intro v6 w6 hown6 hgrow6)
            have hb6 := (hb.alloc hsz (.cells #[.int .u8 34] 5)).grown hgrow6 (by simp; omega) hown.block_ge
            have hsz6 := hb6.size
            clear hgrow6 hown hb
            go_upto_region 21 with (at_builtin; refine wp_app_own rfl _ _ rfl rfl hown6 rfl (o4.below hb6 (Nat.le_refl _)) (by simp; omega) (by omega) ?_; intro v7 w7 hown7 hgrow7)
            have hb7 := hb6.grown hgrow7 hsz6 hown6.block_ge
            have hsz7 := hb7.size
            clear hgrow7 hown6 hb6
            go_upto_region 22 with (at_builtin; refine wp_app (zs := [34]) rfl _ _ rfl rfl (hown7.alloc _) rfl rfl (new_bs _ [34]) (by simp; omega) (by simp; omega) ?_; intro v8 w8 hown8 hgrow8)
            have hb8 := (hb7.alloc hsz7 (.cells #[.int .u8 34] 5)).grown hgrow8 (by simp; omega) hown7.block_ge
            have hsz8 := hb8.size
            clear hgrow8 hown7 hb7
            go_upto_region 23 with (at_builtin; refine wp_app_own rfl _ _ rfl rfl hown8 rfl (o3'.below hb8 (Nat.le_refl _)) (by simp; omega) (by omega) ?_; intro v9 w9 hown9 hgrow9)
            have hb9 := hb8.grown hgrow9 hsz8 hown8.block_ge
            clear hgrow9 hown8 hb8
            obtain ⟨b9, k9, rfl, s9, hk9⟩ := hown9.slice
            have hD : Hid (Pl.map5 pd E tl = pd.map Pl.wsb ++ [34] ++ E ++ [34] ++ tl) := rfl
            rw [← hD.out] at s9 hk9 hown9
            have hDl : (Pl.map5 pd E tl).length = pd.length + E.length + 2 + tl.length := by rw [hD.out]; simp; omega
            have HDL : Hid ((Pl.map5 pd E tl).length = pd.length + E.length + 2 + tl.length) := hDl
            go_wp2_with fail
            refine (zzStr_any (zs := Pl.map5 pd E tl) (p := 0) s9 (by have := HDL.out; omega) rfl (Nat.zero_le _) (by omega) hk9).mono ?_
            rintro e w10 ⟨hB10, hr⟩
            have hB11 := below_step (below_step BB hb9) hB10
            have o4' := (o4.below hb9 (Nat.le_refl _)).below hB10 (Nat.le_refl _)
            clear hDl
            rcases hr with ⟨s, q, a10, k10, hps, hsq, hq, rfl, hb10, hx⟩ | ⟨rfl, hx⟩
            · obtain ⟨rfl, rfl, e10⟩ := map5_read HE g1 hx hq
              rw [e10] at hb10
              obtain ⟨_, _, e4, s4', _⟩ := o4'.slice
              cases e4
              have tq : ((pd.length : Int) + 1 + (E.length : Int) + 1 == (pd.length : Int) + (E.length : Int) + 2) = true := by simp; omega
              go_wp2_with (go_at_call 22; refine (eq_same hb10 s4' (by omega) rfl (by omega)).mono ?_; rintro e w11 ⟨rfl, hB12⟩)
              go_ret
              exact ⟨rfl, below_step hB11 hB12⟩
            · exact absurd hx.out (map5_str HE g1)
  · go_enter Try.func5, Try.ntmps5
    go_wp2_with (go_at_call 18; refine (bytes18_no _ _ _ _ _ _ _ _ _ _ hn).mono ?_; rintro e w' ⟨rfl, rfl⟩)
    go_ret
    exact ⟨rfl, Below.refl _ _⟩
end
end Go.Proofs.Qxb6600109a
