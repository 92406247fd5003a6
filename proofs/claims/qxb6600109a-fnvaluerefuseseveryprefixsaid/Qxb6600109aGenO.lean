import Derived.Test.Qxb6600109aGenA
namespace Go.Proofs.Qxb6600109a
open Go.RowKit

section
variable {a : Option Addr} {capo : Nat} {ops : List Int} {B k : Nat}

set_option maxRecDepth 100000 in
set_option maxHeartbeats 4000000 in
theorem gen_obj (IH : GenIH a capo ops B k) (w : World) (i : Nat) (v : Value) (out : List Int) (hk : k + 1 ≤ 200) (hb : Bs w a ops) (hlt : ∀ bd off, a = some ⟨bd, off, none⟩ → 0 < ops.length → bd < B) (hown : Own w B v out) (hB : B ≤ w.heap.size)
    (hn : ops.length ≤ 100000) (hlen : out.length + 100 * (ops.length - i) + 200 ≤ 100000000) (hil : i < ops.length) (op : Int) (hdr : Hid (ops.drop i = op :: ops.drop (i + 1))) (ho0 : 0 ≤ op) (ho1 : op ≤ 255) (h8 : op % 8 = 6 ∨ op % 8 = 7) :
    Calls Try.prog 37 #[.slice a ops.length capo, .int .i64 (i : Int), .int .i64 (200 - ((k : Int) + 1)), v] w fun e w' => Gend e w w' B ops i out (Pl.gen (k + 1) (ops.drop i)) := by
  obtain ⟨sel, hsel⟩ : ∃ sel, op / 8 = sel := ⟨_, rfl⟩
  have hs0 : 0 ≤ sel := by omega
  have hs1 : sel < 32 := by omega
  have a7 := and7 op ho0 ho1
  have HSEL : Hid (op / 8 = sel) := hsel
  obtain ⟨cnt, hcnt⟩ : ∃ cnt : Nat, (cnt : Int) = sel % 4 := ⟨(sel % 4).toNat, by omega⟩
  have hc3 : cnt ≤ 3 := by omega
  have a3 : bits BinOp.and IntKind.u8 sel 3 = (cnt : Int) := by rw [and3 sel hs0 hs1, hcnt]
  have hgen : Hid (Pl.gen (k + 1) (ops.drop i) = (123 :: Pl.opt (Pl.bit 4 sel) [13, 10] ++ ((Pl.kids (Pl.gen k) (Pl.sepO sel) (ops.drop (i + 1)) cnt).1 ++ [125]), (Pl.kids (Pl.gen k) (Pl.sepO sel) (ops.drop (i + 1)) cnt).2)) := by
    show _ = _
    rw [hdr.out, Pl.gen, if_neg (by omega), if_neg (by omega), if_neg (by omega), if_neg (by omega), HSEL.out, show (sel % 4).toNat = cnt from by omega]
  have hkg := fun j => Pl.kids_good (Pl.gen_good k) (Pl.sepO_len sel) (ops.drop (i + 1)) j
  have HKG : Hid (∀ j, ∃ m, m ≤ (ops.drop (i + 1)).length ∧ (Pl.kids (Pl.gen k) (Pl.sepO sel) (ops.drop (i + 1)) j).2 = (ops.drop (i + 1)).drop m ∧ (Pl.kids (Pl.gen k) (Pl.sepO sel) (ops.drop (i + 1)) j).1.length ≤ 100 * m + 22 * j) := hkg
  clear hkg
  have HB4 : Hid ((bits BinOp.and IntKind.u8 sel 4 != 0) = Pl.bit 4 sel) := bit4 sel hs0 hs1
  have HB8 : Hid ((bits BinOp.and IntKind.u8 sel 8 != 0) = Pl.bit 8 sel) := bit8 sel hs0 hs1
  have HB16 : Hid ((bits BinOp.and IntKind.u8 sel 16 != 0) = Pl.bit 16 sel) := bit16 sel hs0 hs1
  have HIH : Hid (GenIH a capo ops B k) := IH
  clear hcnt IH
  obtain ⟨bd, off, op', rfl, hc, hdr'⟩ := hb.atH hil
  obtain rfl : op = op' := (List.cons.inj (hdr.out.symm.trans hdr'.out)).1
  clear hdr'
  obtain ⟨tt, htt, u0, u1, u2, u3, u4, u5⟩ : ∃ tt, op % 8 = tt ∧ (tt == 0) = false ∧ (tt == 1) = false ∧ (tt == 2) = false ∧ (tt == 3) = false ∧ (tt == 4) = false ∧ (tt == 5) = false := by
    refine ⟨op % 8, rfl, ?_, ?_, ?_, ?_, ?_, ?_⟩ <;> (simp; omega)
  rw [htt] at a7
  clear h8 htt
  have td1 : decide (ops.length ≤ i) = false := by simp; omega
  have td2 : decide ((200 : Int) ≤ 200 - ((k : Int) + 1)) = false := by simp; omega
  go_enter Try.func37, Try.ntmps37
  go_upto_region 31 with fail
  clear td1 td2 u0 u1 u2 u3 u4 u5 a7 a3
  go_cut [3] from 15 to 110 (fun t wr => Own wr B t (out ++ [123]) ∧ Below B w wr)
  case first =>
    go_wp2_with (at_builtin; refine wp_app (zs := [123]) rfl _ _ rfl rfl (hown.alloc _) rfl rfl (new_bs _ [123]) (by simp <;> omega) (by simp <;> omega) ?_; intro v2 w2 hown2 hgrow2)
    go_meet
    case rel => exact ⟨hown2, ((Below.refl _ _).alloc hB _).grown hgrow2 (by simp; omega) hown.block_ge⟩
  case rest =>
  obtain ⟨hown1, hb1⟩ := hcut
  clear hown hc
  have hsz1 := hb1.size
  go_step
  go_step
  go_cut [3] from 111 to 116 (fun t wr => Own wr B t (out ++ (123 :: Pl.opt (Pl.bit 4 sel) [13, 10])) ∧ Below B w wr)
  case first =>
    rcases hbt : Pl.bit 4 sel with _ | _
    · have t4 : (bits BinOp.and IntKind.u8 sel 4 != 0) = false := by rw [HB4.out, hbt]
      have hbt : Hid (Pl.bit 4 sel = false) := hbt
      go_wp2
      go_meet
      case rel => exact ⟨by simpa [Pl.opt, hbt.out] using hown1, hb1⟩
    · have t4 : (bits BinOp.and IntKind.u8 sel 4 != 0) = true := by rw [HB4.out, hbt]
      have hbt : Hid (Pl.bit 4 sel = true) := hbt
      go_wp2_with (at_builtin; refine wp_app (zs := [13, 10]) rfl _ _ rfl rfl (hown1.alloc _) rfl rfl (new_bs _ [13, 10]) (by simp <;> omega) (by simp <;> omega) ?_; intro v2 w2 hown2 hgrow2)
      go_meet
      case rel => exact ⟨by simpa [Pl.opt, hbt.out] using hown2, (hb1.alloc (by omega) _).grown hgrow2 (by simp; omega) hown1.block_ge⟩
  case rest =>
  clear hown1 hb1 hsz1
  obtain ⟨hown1, hb1⟩ := hcut
  have hsz1 := hb1.size
  generalize hH : (123 :: Pl.opt (Pl.bit 4 sel) [13, 10]) = H at hown1
  have HH : Hid ((123 :: Pl.opt (Pl.bit 4 sel) [13, 10]) = H) := hH
  have hHl : H.length ≤ 3 := by
    rw [← hH]
    have := Pl.opt_len (Pl.bit 4 sel) [13, 10]
    simp at this ⊢
    omega
  clear hH
  generalize hKK : Pl.kids (Pl.gen k) (Pl.sepO sel) (ops.drop (i + 1)) = KK at HKG
  have HKK : Hid (Pl.kids (Pl.gen k) (Pl.sepO sel) (ops.drop (i + 1)) = KK) := hKK
  clear hKK
  go_wp2_with fail
  go_loopg [1, 3, 14] cnt (fun gh s1 s3 s14 wr => ∃ j i' : Nat, gh = cnt - j ∧ j ≤ cnt ∧ s14 = .int .i64 j ∧ s1 = .int .i64 i' ∧ i + 1 ≤ i' ∧ i' ≤ ops.length ∧ Hid ((KK j).2 = ops.drop i') ∧ Own wr B s3 (out ++ H ++ (KK j).1) ∧ Below B w wr)
  case atStart => exact ⟨0, i + 1, rfl, Nat.zero_le _, rfl, by go_num, Nat.le_refl _, by omega, by rw [← HKK.out]; rfl, by rw [← HKK.out]; simpa [Pl.kids] using hown1, hb1⟩
  case round =>
    clear hown1 hb1 hsz1
    obtain ⟨j, i', rfl, hj, rfl, rfl, hi1, hi2, hrest, hown1, hb1⟩ := hrel
    have hsz1 := hb1.size
    have hkl := kk_len HKG hrest hi1 hi2
    by_cases hjc : j < cnt
    · have hstep : Hid (KK (j + 1) = ((KK j).1 ++ (Pl.sepO sel j ++ (Pl.gen k (ops.drop i')).1), (Pl.gen k (ops.drop i')).2)) := by
        show _ = _
        rw [← hrest.out, ← HKK.out]
        rfl
      generalize hP : out ++ H ++ (KK j).1 = P at hown1
      have hPl : P.length ≤ out.length + 3 + (100 * (i' - (i + 1)) + 22 * j) := by rw [← hP]; simp; omega
      have HP : Hid (out ++ H ++ (KK j).1 = P) := hP
      clear hP
      go_upto_if 123 with fail
      go_cut [3] from 117 to 126 (fun t wr => Own wr B t (P ++ Pl.opt (decide (0 < j)) [44]) ∧ Below B w wr)
      case first =>
        by_cases hj0 : j = 0
        · subst hj0
          go_wp2
          go_meet
          case rel => exact ⟨by simpa [Pl.opt] using hown1, hb1⟩
        · have hjp : (0 : Int) < (j : Int) := by omega
          go_wp2_with (at_builtin; refine wp_app (zs := [44]) rfl _ _ rfl rfl (hown1.alloc _) rfl rfl (new_bs _ [44]) (by simp <;> omega) (by simp <;> omega) ?_; intro v2 w2 hown2 hgrow2)
          go_meet
          case rel => exact ⟨by simpa [Pl.opt, show 0 < j by omega] using hown2, (hb1.alloc (by omega) _).grown hgrow2 (by simp; omega) hown1.block_ge⟩
      case rest =>
      clear hown1 hb1 hsz1
      obtain ⟨hown1, hb1⟩ := hcut
      have hsz1 := hb1.size
      have hol1 := Pl.opt_len (decide (0 < j)) [44]
      simp only [List.length_cons, List.length_nil] at hol1
      have hstl := Pl.strText_len (sel + (j : Int))
      go_upto_if 136 with (first | (go_at_call 44; refine (strText_any _ _ (by omega) (by omega)).mono ?_; rintro e w' ⟨rfl, hw⟩; obtain rfl := hw.symm) | (at_builtin; refine wp_app_str (zs := Pl.strText (sel + (j : Int))) rfl _ _ rfl rfl hown1 rfl (strText_by _) (by simp only [List.length_append]; omega) (by omega) ?_; intro v2 w2 hown2 hgrow2))
      have hb2 := hb1.grown hgrow2 (by omega) hown1.block_ge
      have hsz2 := hb2.size
      clear hgrow2 hown1 hb1
      go_cut [3] from 117 to 139 (fun t wr => Own wr B t (P ++ Pl.opt (decide (0 < j)) [44] ++ Pl.strText (sel + (j : Int)) ++ Pl.opt (Pl.bit 8 sel) [32]) ∧ Below B w wr)
      case first =>
        rcases hbt : Pl.bit 8 sel with _ | _
        · have t4 : (bits BinOp.and IntKind.u8 sel 8 != 0) = false := by rw [HB8.out, hbt]
          have hbt : Hid (Pl.bit 8 sel = false) := hbt
          go_wp2
          go_meet
          case rel => exact ⟨by simpa [Pl.opt, hbt.out] using hown2, hb2⟩
        · have t4 : (bits BinOp.and IntKind.u8 sel 8 != 0) = true := by rw [HB8.out, hbt]
          have hbt : Hid (Pl.bit 8 sel = true) := hbt
          go_wp2_with (at_builtin; refine wp_app (zs := [32]) rfl _ _ rfl rfl (hown2.alloc _) rfl rfl (new_bs _ [32]) (by simp only [List.length_append, List.length_cons, List.length_nil]; omega) (by simp <;> omega) ?_; intro v3 w3 hown3 hgrow3)
          go_meet
          case rel => exact ⟨by simpa [Pl.opt, hbt.out] using hown3, (hb2.alloc (by omega) _).grown hgrow3 (by simp; omega) hown2.block_ge⟩
      case rest =>
      clear hown2 hb2 hsz2
      obtain ⟨hown1, hb1⟩ := hcut
      have hsz1 := hb1.size
      have hol2 := Pl.opt_len (Pl.bit 8 sel) [32]
      simp only [List.length_cons, List.length_nil] at hol2
      go_upto_if 145 with (at_builtin; refine wp_app (zs := [58]) rfl _ _ rfl rfl (hown1.alloc _) rfl rfl (new_bs _ [58]) (by simp only [List.length_append, List.length_cons, List.length_nil]; omega) (by simp <;> omega) ?_; intro v2 w2 hown2 hgrow2)
      have hb2 := (hb1.alloc (by omega) (.cells #[.int .u8 58] 5)).grown hgrow2 (by simp; omega) hown1.block_ge
      have hsz2 := hb2.size
      clear hgrow2 hown1 hb1
      go_cut [3] from 117 to 148 (fun t wr => Own wr B t (P ++ Pl.sepO sel j) ∧ Below B w wr)
      case first =>
        rcases hbt : Pl.bit 16 sel with _ | _
        · have t4 : (bits BinOp.and IntKind.u8 sel 16 != 0) = false := by rw [HB16.out, hbt]
          have hbt : Hid (Pl.bit 16 sel = false) := hbt
          go_wp2
          go_meet
          case rel => exact ⟨by rw [Pl.sepO, hbt.out]; simpa [Pl.opt] using hown2, hb2⟩
        · have t4 : (bits BinOp.and IntKind.u8 sel 16 != 0) = true := by rw [HB16.out, hbt]
          have hbt : Hid (Pl.bit 16 sel = true) := hbt
          go_wp2_with (at_builtin; refine wp_app (zs := [9]) rfl _ _ rfl rfl (hown2.alloc _) rfl rfl (new_bs _ [9]) (by simp only [List.length_append, List.length_cons, List.length_nil]; omega) (by simp <;> omega) ?_; intro v3 w3 hown3 hgrow3)
          go_meet
          case rel => exact ⟨by rw [Pl.sepO, hbt.out]; simpa [Pl.opt] using hown3, (hb2.alloc (by omega) _).grown hgrow3 (by simp; omega) hown2.block_ge⟩
      case rest =>
      clear hown2 hb2 hsz2
      obtain ⟨hown1, hb1⟩ := hcut
      have hsz1 := hb1.size
      have hsl := Pl.sepO_len sel j
      go_wp2_with fail
      refine (HIH.out _ i' _ _ _ (by omega) (by omega) (hb.below hb1 hlt) hlt hown1 (by omega) hi2 (by simp only [List.length_append]; omega)).mono ?_
      rintro e w3 ⟨v3, i3, rfl, hown3, hb3, hi3, hi4, hrest3⟩
      have hb4 := hb1.trans hb3
      clear hb3 hown1
      go_wp2_with fail
      go_roundg (cnt - (j + 1))
      case measure => omega
      case rel => exact ⟨j + 1, i3, rfl, by omega, by go_num, rfl, by omega, hi4, by show _ = _; rw [hstep.out]; exact hrest3, by rw [hstep.out]; rw [← HP.out] at hown3; simpa using hown3, hb4⟩
    · obtain rfl : j = cnt := by omega
      go_wp2_with (at_builtin; refine wp_app (zs := [125]) rfl _ _ rfl rfl (hown1.alloc _) rfl rfl (new_bs _ [125]) (by simp <;> omega) (by simp <;> omega) ?_; intro v3 w3 hown3 hgrow3)
      go_ret2
      exact ⟨v3, i', rfl, by rw [hgen.out, HKK.out]; show Own w3 B v3 (out ++ ((123 :: Pl.opt (Pl.bit 4 sel) [13, 10]) ++ _)); rw [HH.out]; simpa using hown3, (hb1.alloc (by omega) _).grown hgrow3 (by simp; omega) hown1.block_ge, by omega, hi2, by rw [hgen.out, HKK.out]; exact hrest⟩
end
end Go.Proofs.Qxb6600109a
