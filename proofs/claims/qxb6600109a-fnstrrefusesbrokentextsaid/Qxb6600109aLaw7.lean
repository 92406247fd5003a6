import Derived.Test.Qxb6600109aPad
namespace Go.Proofs.Qxb6600109a
open Go.RowKit

theorem bytes25 (a1 a2 : Option Addr) (n1 n2 k1 k2 : Nat) (c x : Int) (w : World) (hn : n1 + n2 ≤ 1048576) : Calls Try.prog 25 #[.slice a1 n1 k1, .int .u8 c, .int .u8 x, .slice a2 n2 k2] w fun e w' => e = .returned (.bool true) ∧ w' = w := by
  have h1 : (n1 : Int) ≤ 1048576 := by omega
  have h2 : (n2 : Int) ≤ 1048576 := by omega
  have h12 : (n1 : Int) + n2 ≤ 1048576 := by omega
  go_enter Try.func25, Try.ntmps25
  go_wp2
  go_ret
  exact ⟨rfl, rfl⟩
theorem bytes25_no (a1 a2 : Option Addr) (n1 n2 k1 k2 : Nat) (c x : Int) (w : World) (hn : ¬ n1 + n2 ≤ 1048576) : Calls Try.prog 25 #[.slice a1 n1 k1, .int .u8 c, .int .u8 x, .slice a2 n2 k2] w fun e w' => e = .returned (.bool false) ∧ w' = w := by
  by_cases h1 : (1048576 : Int) < n1
  · go_enter Try.func25, Try.ntmps25
    go_wp2
    go_ret
    exact ⟨rfl, rfl⟩
  · by_cases h2 : (1048576 : Int) < n2
    · go_enter Try.func25, Try.ntmps25
      go_wp2
      go_ret
      exact ⟨rfl, rfl⟩
    · have h12 : (1048576 : Int) < (n1 : Int) + n2 := by omega
      go_enter Try.func25, Try.ntmps25
      go_wp2
      go_ret
      exact ⟨rfl, rfl⟩

theorem escChar_any (c : Int) (w : World) : Calls Try.prog 26 #[.int .u8 c] w fun e w' => e = .returned (.bool (Pl.escc c || c == 117)) ∧ w' = w := by
  by_cases h34 : c ∈ [34, 92, 47, 98, 102, 110, 114, 116, 117]
  · simp at h34
    rcases h34 with rfl | rfl | rfl | rfl | rfl | rfl | rfl | rfl | rfl
    all_goals
      go_enter Try.func26, Try.ntmps26
      go_wp2
      go_ret
      exact ⟨rfl, rfl⟩
  · simp at h34
    obtain ⟨n1, n2, n3, n4, n5, n6, n7, n8, n9⟩ := h34
    have t1 : (c == 34) = false := by simp [n1]
    have t2 : (c == 92) = false := by simp [n2]
    have t3 : (c == 47) = false := by simp [n3]
    have t4 : (c == 98) = false := by simp [n4]
    have t5 : (c == 102) = false := by simp [n5]
    have t6 : (c == 110) = false := by simp [n6]
    have t7 : (c == 114) = false := by simp [n7]
    have t8 : (c == 116) = false := by simp [n8]
    have t9 : (c == 117) = false := by simp [n9]
    have hcc : Hid ((Pl.escc c || c == 117) = false) := by simp [Hid, Pl.escc, n1, n2, n3, n4, n5, n6, n7, n8, n9]
    clear n1 n2 n3 n4 n5 n6 n7 n8 n9
    go_enter Try.func26, Try.ntmps26
    go_wp2
    go_ret
    exact ⟨retB hcc.out.symm, rfl⟩

/-- jb1StrFaults of a text that str refuses. -/
theorem strFaults_any {w : World} {a : Option Addr} {n cap : Nat} {zs : List Int} (h : Bs w a zs) (en : n = zs.length) (hn : zs.length ≤ 1000000000) (hcap : zs.length ≤ cap) (hx : Pl.str zs = none) :
    Calls Try.prog 27 #[.slice a n cap] w fun e w' => e = .returned (.bool true) ∧ Below w.heap.size w w' := by
  subst en
  have HX : Hid (Pl.str zs = none) := hx
  clear hx
  go_enter Try.func27, Try.ntmps27
  go_wp2_with fail
  refine (zzStr_any (p := 0) h rfl rfl (Nat.zero_le _) hn hcap).mono ?_
  rintro e w1 ⟨hB, hr⟩
  rcases hr with ⟨s, q, a1, k1, hps, hsq, hq, rfl, hb1, hx⟩ | ⟨rfl, hx⟩
  · obtain ⟨h1, h2⟩ := hx.out
    have := HX.out
    rw [List.drop_zero] at h1
    simp [Pl.str, h1, h2] at this
  · go_wp2
    go_ret
    exact ⟨rfl, hB⟩

theorem refuse1 (b1 b2 : List Int) (g1 : ∀ c ∈ b1, 0 ≤ c ∧ c ≤ 255) (g2 : ∀ c ∈ b2, 0 ≤ c ∧ c ≤ 255) : Pl.str ([34] ++ Pl.enc b1 ++ Pl.enc b2) = none := by
  have e : [34] ++ Pl.enc b1 ++ Pl.enc b2 = 34 :: (Pl.enc b1 ++ (Pl.enc b2 ++ [])) := by simp
  rw [Pl.str, e, ws_no (by decide)]
  simp only [if_true]
  rw [strB_enc _ _ (fun c hc => (g1 c hc).1), strB_enc _ _ (fun c hc => (g2 c hc).1), strB_nil]
theorem refuse2 (b1 b2 : List Int) (c : Int) (g1 : ∀ c ∈ b1, 0 ≤ c ∧ c ≤ 255) (hc : c < 32) : Pl.str ([34] ++ Pl.enc b1 ++ [c] ++ Pl.enc b2 ++ [34]) = none := by
  have e : [34] ++ Pl.enc b1 ++ [c] ++ Pl.enc b2 ++ [34] = 34 :: (Pl.enc b1 ++ c :: (Pl.enc b2 ++ [34])) := by simp
  rw [Pl.str, e, ws_no (by decide)]
  simp only [if_true]
  rw [strB_enc _ _ (fun c hc => (g1 c hc).1), strB_ctl (by omega) (by omega) hc]
theorem refuse3 (b1 b2 : List Int) (x : Int) (g1 : ∀ c ∈ b1, 0 ≤ c ∧ c ≤ 255) (hx : (Pl.escc x || x == 117) = false) : Pl.str ([34] ++ Pl.enc b1 ++ [92, x] ++ Pl.enc b2 ++ [34]) = none := by
  have e : [34] ++ Pl.enc b1 ++ [92, x] ++ Pl.enc b2 ++ [34] = 34 :: (Pl.enc b1 ++ 92 :: x :: (Pl.enc b2 ++ [34])) := by simp
  rw [Pl.str, e, ws_no (by decide)]
  simp only [if_true]
  simp only [Bool.or_eq_false_iff] at hx
  rw [strB_enc _ _ (fun c hc => (g1 c hc).1), strB_bad]
  simp [Pl.esc, hx.1, hx.2]

section
variable {w : World} {a1 a2 : Option Addr} {c1 c2 : Nat} {b1 b2 : List Int} {c x : Int}

set_option maxRecDepth 100000 in
set_option maxHeartbeats 4000000 in
theorem law7 (h1 : Bs w a1 b1) (h2 : Bs w a2 b2) (g1 : ∀ c ∈ b1, 0 ≤ c ∧ c ≤ 255) (g2 : ∀ c ∈ b2, 0 ≤ c ∧ c ≤ 255) (hc0 : 0 ≤ c) (hc1 : c ≤ 255) :
    Calls Try.prog 7 #[.slice a1 b1.length c1, .int .u8 c, .int .u8 x, .slice a2 b2.length c2] w fun e w' => e = .returned (.bool true) ∧ Below w.heap.size w w' := by
  by_cases hn : b1.length + b2.length ≤ 1048576
  · by_cases n1 : (65536 : Int) < b1.length
    · go_enter Try.func7, Try.ntmps7
      go_wp2_with (go_at_call 25; refine (bytes25 _ _ _ _ _ _ _ _ _ hn).mono ?_; rintro e w' ⟨rfl, rfl⟩)
      go_ret
      exact ⟨rfl, Below.refl _ _⟩
    · by_cases n2 : (65536 : Int) < b2.length
      · go_enter Try.func7, Try.ntmps7
        go_wp2_with (go_at_call 25; refine (bytes25 _ _ _ _ _ _ _ _ _ hn).mono ?_; rintro e w' ⟨rfl, rfl⟩)
        go_ret
        exact ⟨rfl, Below.refl _ _⟩
      · go_enter Try.func7, Try.ntmps7
        go_wp2_with (go_at_call 25; refine (bytes25 _ _ _ _ _ _ _ _ _ hn).mono ?_; rintro e w' ⟨rfl, hw⟩; obtain rfl := hw.symm)
        refine (clone_own h1 rfl (by omega)).mono ?_
        rintro e w1 ⟨v1, rfl, o1, B1⟩
        obtain ⟨d1, k1, rfl, s1, _⟩ := o1.slice
        go_wp2_with fail
        refine (clone_own (h2.belowAll B1) rfl (by omega)).mono ?_
        rintro e w2 ⟨v2, rfl, o2, B2⟩
        obtain ⟨d2, k2, rfl, s2, _⟩ := o2.slice
        go_wp2_with fail
        refine (enc_any (s1.belowAll B2) rfl (by omega) g1).mono ?_
        rintro e w3 ⟨v3, rfl, o3, B3⟩
        obtain ⟨d3, k3, rfl, s3, _⟩ := o3.slice
        go_wp2_with fail
        refine (enc_any (s2.belowAll B3) rfl (by omega) g2).mono ?_
        rintro e w4 ⟨v4, rfl, o4, B4⟩
        obtain ⟨d4, k4, rfl, s4, _⟩ := o4.slice
        have oe1 := o3.below B4 (Nat.le_refl _)
        have BB := below_step (below_step (below_step B1 B2) B3) B4
        clear o1 o2 o3 s1 s2 s3 s4 B1 B2 B3 B4 h1 h2
        have R1 : Hid (Pl.str ([34] ++ Pl.enc b1 ++ Pl.enc b2) = none) := refuse1 b1 b2 g1 g2
        have R2 : Hid (Pl.str ([34] ++ Pl.enc b1 ++ [c % 32] ++ Pl.enc b2 ++ [34]) = none) := refuse2 b1 b2 (c % 32) g1 (by omega)
        have R3 : Hid (∀ y, (Pl.escc y || y == 117) = false → Pl.str ([34] ++ Pl.enc b1 ++ [92, y] ++ Pl.enc b2 ++ [34]) = none) := fun y hy => refuse3 b1 b2 y g1 hy
        have l1 := Pl.enc_len b1
        have l2 := Pl.enc_len b2
        generalize Pl.enc b1 = E1 at *
        generalize Pl.enc b2 = E2 at *
        obtain ⟨i0, hi, hz0, hz1, hz2⟩ := info_parts Try.info5
        go_upto_region 12 with (at_make; refine wpList_make_own _ rfl _ _ 22 rfl w4.heap.size 5 i0 (.int .u8 0) 1 Try.underlying22 hi hz0 hz1 .i64 .i64 _ (E1.length + E2.length + 1) rfl rfl (by omega) (by rw [hz2]; omega) (by unfold maxLen; omega) (Nat.le_refl _) ?_; intro w5 hown5 hgrow5)
        have hb5 : Below w4.heap.size w4 w5 := (Below.refl _ _).grown hgrow5 (Nat.le_refl _) (fun k e => by cases e)
        have hown5 : Own w5 w4.heap.size _ [] := hown5
        have hsz5 := hb5.size
        clear hgrow5
        go_upto_region 13 with (at_builtin; refine wp_app (zs := [34]) rfl _ _ rfl rfl (hown5.alloc _) rfl rfl (new_bs _ [34]) (by simp <;> omega) (by simp <;> omega) ?_; intro v6 w6 hown6 hgrow6)
        have hb6 := (hb5.alloc hsz5 (.cells #[.int .u8 34] 5)).grown hgrow6 (by simp; omega) hown5.block_ge
        have hsz6 := hb6.size
        clear hgrow6 hown5 hb5
        go_upto_region 14 with (at_builtin; refine wp_app_own rfl _ _ rfl rfl hown6 rfl (oe1.below hb6 (Nat.le_refl _)) (by simp <;> omega) (by omega) ?_; intro v7 w7 hown7 hgrow7)
        have hb7 := hb6.grown hgrow7 hsz6 hown6.block_ge
        have hsz7 := hb7.size
        clear hgrow7 hown6 hb6
        go_upto_region 15 with (at_builtin; refine wp_app_own rfl _ _ rfl rfl hown7 rfl (o4.below hb7 (Nat.le_refl _)) (by simp <;> omega) (by omega) ?_; intro v8 w8 hown8 hgrow8)
        have hb8 := hb7.grown hgrow8 hsz7 hown7.block_ge
        have hsz8 := hb8.size
        clear hgrow8 hown7 hb7
        have oe1b := oe1.below hb8 (Nat.le_refl _)
        have o4b := o4.below hb8 (Nat.le_refl _)
        have BBu := below_step BB hb8
        clear oe1 o4 BB hb8
        go_upto_region 16 with (at_make; refine wpList_make_own _ rfl _ _ 22 rfl w8.heap.size 5 i0 (.int .u8 0) 1 Try.underlying22 hi hz0 hz1 .i64 .i64 _ (E1.length + E2.length + 3) rfl rfl (by omega) (by rw [hz2]; omega) (by unfold maxLen; omega) (Nat.le_refl _) ?_; intro w9 hown9 hgrow9)
        have hb9 : Below w8.heap.size w8 w9 := (Below.refl _ _).grown hgrow9 (Nat.le_refl _) (fun k e => by cases e)
        have hown9 : Own w9 w8.heap.size _ [] := hown9
        have hsz9 := hb9.size
        clear hgrow9
        go_upto_region 17 with (at_builtin; refine wp_app (zs := [34]) rfl _ _ rfl rfl (hown9.alloc _) rfl rfl (new_bs _ [34]) (by simp <;> omega) (by simp <;> omega) ?_; intro v10 w10 hown10 hgrow10)
        have hb10 := (hb9.alloc hsz9 (.cells #[.int .u8 34] 5)).grown hgrow10 (by simp; omega) hown9.block_ge
        have hsz10 := hb10.size
        clear hgrow10 hown9 hb9
        go_upto_region 18 with (at_builtin; refine wp_app_own rfl _ _ rfl rfl hown10 rfl (oe1b.below hb10 (Nat.le_refl _)) (by simp <;> omega) (by omega) ?_; intro v11 w11 hown11 hgrow11)
        have hb11 := hb10.grown hgrow11 hsz10 hown10.block_ge
        have hsz11 := hb11.size
        clear hgrow11 hown10 hb10
        go_upto_region 19 with (at_builtin; refine wp_app (zs := [c % 32]) rfl _ _ rfl rfl (hown11.alloc _) rfl rfl (new_bs _ [c % 32]) (by simp <;> omega) (by simp <;> omega) ?_; intro v12 w12 hown12 hgrow12)
        have hb12 := (hb11.alloc hsz11 (.cells #[.int .u8 (c % 32)] 5)).grown hgrow12 (by simp; omega) hown11.block_ge
        have hsz12 := hb12.size
        clear hgrow12 hown11 hb11
        go_upto_region 20 with (at_builtin; refine wp_app_own rfl _ _ rfl rfl hown12 rfl (o4b.below hb12 (Nat.le_refl _)) (by simp <;> omega) (by omega) ?_; intro v13 w13 hown13 hgrow13)
        have hb13 := hb12.grown hgrow13 hsz12 hown12.block_ge
        have hsz13 := hb13.size
        clear hgrow13 hown12 hb12
        go_upto_region 21 with (at_builtin; refine wp_app (zs := [34]) rfl _ _ rfl rfl (hown13.alloc _) rfl rfl (new_bs _ [34]) (by simp <;> omega) (by simp <;> omega) ?_; intro v14 w14 hown14 hgrow14)
        have hb14 := (hb13.alloc hsz13 (.cells #[.int .u8 34] 5)).grown hgrow14 (by simp; omega) hown13.block_ge
        have hsz14 := hb14.size
        clear hgrow14 hown13 hb13
        have oe1c := oe1b.below hb14 (Nat.le_refl _)
        have o4c := o4b.below hb14 (Nat.le_refl _)
        have ownU := hown8.below hb14 (Nat.le_refl _)
        have BBr := below_step BBu hb14
        clear oe1b o4b BBu hb14 hown8
        go_cut [13] from 75 to 75 (fun t wr => t = .int .u8 x ∧ wr = w14)
        case first =>
          go_wp2
          go_meet
          case rel => exact ⟨rfl, rfl⟩
        case rest =>
        obtain ⟨rfl, hw⟩ := hcut
        obtain rfl := hw.symm
        go_step
        go_step
        go_cut [13] from 76 to 77 (fun t wr => ∃ y, t = .int .u8 y ∧ Hid ((Pl.escc y || y == 117) = false) ∧ wr = w14)
        case first =>
          rcases hesc : (Pl.escc x || x == 117) with _ | _
          · have HE : Hid ((Pl.escc x || x == 117) = false) := hesc
            go_wp2_with (go_at_call 26; refine (escChar_any _ _).mono ?_; rw [HE.out]; rintro e w' ⟨rfl, hw⟩; obtain rfl := hw.symm)
            go_meet
            case rel => exact ⟨x, rfl, HE, rfl⟩
          · have HE : Hid ((Pl.escc x || x == 117) = true) := hesc
            clear hesc
            go_wp2_with (go_at_call 26; refine (escChar_any _ _).mono ?_; rw [HE.out]; rintro e w' ⟨rfl, hw⟩; obtain rfl := hw.symm)
            go_meet
            case rel => exact ⟨120, rfl, rfl, rfl⟩
        case rest =>
        obtain ⟨y, rfl, hy, hw⟩ := hcut
        obtain rfl := hw.symm
        go_upto_region 25 with (at_make; refine wpList_make_own _ rfl _ _ 22 rfl w14.heap.size 5 i0 (.int .u8 0) 1 Try.underlying22 hi hz0 hz1 .i64 .i64 _ (E1.length + E2.length + 4) rfl rfl (by omega) (by rw [hz2]; omega) (by unfold maxLen; omega) (Nat.le_refl _) ?_; intro w15 hown15 hgrow15)
        have hb15 : Below w14.heap.size w14 w15 := (Below.refl _ _).grown hgrow15 (Nat.le_refl _) (fun k e => by cases e)
        have hown15 : Own w15 w14.heap.size _ [] := hown15
        have hsz15 := hb15.size
        clear hgrow15
        go_upto_region 26 with (at_builtin; refine wp_app (zs := [34]) rfl _ _ rfl rfl (hown15.alloc _) rfl rfl (new_bs _ [34]) (by simp <;> omega) (by simp <;> omega) ?_; intro v16 w16 hown16 hgrow16)
        have hb16 := (hb15.alloc hsz15 (.cells #[.int .u8 34] 5)).grown hgrow16 (by simp; omega) hown15.block_ge
        have hsz16 := hb16.size
        clear hgrow16 hown15 hb15
        go_upto_region 27 with (at_builtin; refine wp_app_own rfl _ _ rfl rfl hown16 rfl (oe1c.below hb16 (Nat.le_refl _)) (by simp <;> omega) (by omega) ?_; intro v17 w17 hown17 hgrow17)
        have hb17 := hb16.grown hgrow17 hsz16 hown16.block_ge
        have hsz17 := hb17.size
        clear hgrow17 hown16 hb16
        go_upto_region 28 with (at_builtin; refine wp_app (zs := [92, y]) rfl _ _ rfl rfl (hown17.alloc _) rfl rfl (new_bs _ [92, y]) (by simp <;> omega) (by simp <;> omega) ?_; intro v18 w18 hown18 hgrow18)
        have hb18 := (hb17.alloc hsz17 (.cells #[.int .u8 92, .int .u8 y] 5)).grown hgrow18 (by simp; omega) hown17.block_ge
        have hsz18 := hb18.size
        clear hgrow18 hown17 hb17
        go_upto_region 29 with (at_builtin; refine wp_app_own rfl _ _ rfl rfl hown18 rfl (o4c.below hb18 (Nat.le_refl _)) (by simp <;> omega) (by omega) ?_; intro v19 w19 hown19 hgrow19)
        have hb19 := hb18.grown hgrow19 hsz18 hown18.block_ge
        have hsz19 := hb19.size
        clear hgrow19 hown18 hb18
        go_upto_region 30 with (at_builtin; refine wp_app (zs := [34]) rfl _ _ rfl rfl (hown19.alloc _) rfl rfl (new_bs _ [34]) (by simp <;> omega) (by simp <;> omega) ?_; intro v20 w20 hown20 hgrow20)
        have hb20 := (hb19.alloc hsz19 (.cells #[.int .u8 34] 5)).grown hgrow20 (by simp; omega) hown19.block_ge
        have hsz20 := hb20.size
        clear hgrow20 hown19 hb19
        have ownU2 := ownU.below hb20 (Nat.le_refl _)
        have ownR2 := hown14.below hb20 (Nat.le_refl _)
        have BBx := below_step BBr hb20
        obtain ⟨dX, kX, rfl, sX, hkX⟩ := hown20.slice
        obtain ⟨dU, kU, rfl, sU, hkU⟩ := ownU2.slice
        obtain ⟨dR, kR, rfl, sR, hkR⟩ := ownR2.slice
        clear ownU ownR2 ownU2 hown14 hown20 hb20 BBr oe1c o4c
        go_wp2_with fail
        refine (strFaults_any sU (by simp <;> omega) (by simp <;> omega) (by simpa using hkU) R1.out).mono ?_
        rintro e wA ⟨rfl, BA⟩
        go_wp2_with fail
        refine (strFaults_any (sR.belowAll BA) (by simp <;> omega) (by simp <;> omega) (by simpa using hkR) R2.out).mono ?_
        rintro e wB ⟨rfl, BB2⟩
        go_wp2_with fail
        refine (strFaults_any ((sX.belowAll BA).belowAll BB2) (by simp <;> omega) (by simp <;> omega) (by simpa using hkX) (R3.out y hy.out)).mono ?_
        rintro e wC ⟨rfl, BC⟩
        go_wp2
        go_ret
        exact ⟨rfl, below_step (below_step (below_step BBx BA) BB2) BC⟩
  · go_enter Try.func7, Try.ntmps7
    go_wp2_with (go_at_call 25; refine (bytes25_no _ _ _ _ _ _ _ _ _ hn).mono ?_; rintro e w' ⟨rfl, rfl⟩)
    go_ret
    exact ⟨rfl, Below.refl _ _⟩
end
end Go.Proofs.Qxb6600109a
