import Derived.Test.Qxb6600109aGenT
import Derived.Test.Qxb6600109aEnc
namespace Go.Proofs.Qxb6600109a
open Go.RowKit

theorem and_dec {m : Int} {f : Int → Int} {N : Nat} (key : ∀ n : Nat, n < N → bits BinOp.and IntKind.u8 (n : Int) m = f (n : Int)) (c : Int) (h0 : 0 ≤ c) (h : c < N) : bits BinOp.and IntKind.u8 c m = f c := by
  obtain ⟨n, rfl⟩ := Int.eq_ofNat_of_zero_le h0
  exact key n (by omega)
theorem and7 (c : Int) (h0 : 0 ≤ c) (h : c ≤ 255) : bits BinOp.and IntKind.u8 c 7 = c % 8 := and_dec (f := fun c => c % 8) (N := 256) (by decide +kernel) c h0 (by omega)
theorem and3 (c : Int) (h0 : 0 ≤ c) (h : c < 32) : bits BinOp.and IntKind.u8 c 3 = c % 4 := and_dec (f := fun c => c % 4) (N := 32) (by decide +kernel) c h0 (by omega)
theorem bit_dec {m : Int} {N : Nat} (key : ∀ n : Nat, n < N → (bits BinOp.and IntKind.u8 (n : Int) m != 0) = Pl.bit m (n : Int)) (c : Int) (h0 : 0 ≤ c) (h : c < N) : (bits BinOp.and IntKind.u8 c m != 0) = Pl.bit m c := by
  obtain ⟨n, rfl⟩ := Int.eq_ofNat_of_zero_le h0
  exact key n (by omega)
theorem bit4 (c : Int) (h0 : 0 ≤ c) (h : c < 32) : (bits BinOp.and IntKind.u8 c 4 != 0) = Pl.bit 4 c := bit_dec (N := 32) (by decide +kernel) c h0 (by omega)
theorem bit8 (c : Int) (h0 : 0 ≤ c) (h : c < 32) : (bits BinOp.and IntKind.u8 c 8 != 0) = Pl.bit 8 c := bit_dec (N := 32) (by decide +kernel) c h0 (by omega)
theorem bit16 (c : Int) (h0 : 0 ≤ c) (h : c < 32) : (bits BinOp.and IntKind.u8 c 16 != 0) = Pl.bit 16 c := bit_dec (N := 32) (by decide +kernel) c h0 (by omega)

section
variable {a : Option Addr} {capo : Nat} {ops : List Int} {B k : Nat}

/-- What jb1Gen leaves. -/
def Gend (e : Ending) (w w' : World) (B : Nat) (ops : List Int) (i : Nat) (out : List Int) (q : List Int × List Int) : Prop :=
  ∃ v' i', e = .returned (.tuple #[v', .int .i64 ((i' : Nat) : Int)]) ∧ Own w' B v' (out ++ q.1) ∧ Below B w w' ∧ i ≤ i' ∧ i' ≤ ops.length ∧ Hid (q.2 = ops.drop i')

/-- What is known of jb1Gen one level down. -/
def GenIH (a : Option Addr) (capo : Nat) (ops : List Int) (B k : Nat) : Prop :=
  ∀ (w : World) (i : Nat) (x : Int) (v : Value) (out : List Int), k ≤ 200 → x = 200 - (k : Int) → Bs w a ops → (∀ bd off, a = some ⟨bd, off, none⟩ → 0 < ops.length → bd < B) → Own w B v out → B ≤ w.heap.size → i ≤ ops.length →
      out.length + 100 * (ops.length - i) + 200 ≤ 100000000 →
    Calls Try.prog 37 #[.slice a ops.length capo, .int .i64 (i : Int), .int .i64 x, v] w fun e w' => Gend e w w' B ops i out (Pl.gen k (ops.drop i))

theorem kk_len {KK : Nat → List Int × List Int} {ops : List Int} {i i' j : Nat} (h : Hid (∀ j, ∃ m, m ≤ (ops.drop (i + 1)).length ∧ (KK j).2 = (ops.drop (i + 1)).drop m ∧ (KK j).1.length ≤ 100 * m + 22 * j)) (hr : Hid ((KK j).2 = ops.drop i')) (h1 : i + 1 ≤ i') (h2 : i' ≤ ops.length) :
    (KK j).1.length ≤ 100 * (i' - (i + 1)) + 22 * j := by
  obtain ⟨m, hm, e, hl⟩ := h.out j
  rw [hr.out] at e
  have := congrArg List.length e
  simp at this hm
  have : m = i' - (i + 1) := by omega
  rw [← this]
  exact hl

set_option maxRecDepth 100000 in
set_option maxHeartbeats 4000000 in
theorem gen_arr (IH : GenIH a capo ops B k) (w : World) (i : Nat) (v : Value) (out : List Int) (hk : k + 1 ≤ 200) (hb : Bs w a ops) (hlt : ∀ bd off, a = some ⟨bd, off, none⟩ → 0 < ops.length → bd < B) (hown : Own w B v out) (hB : B ≤ w.heap.size)
    (hn : ops.length ≤ 100000) (hlen : out.length + 100 * (ops.length - i) + 200 ≤ 100000000) (hil : i < ops.length) (op : Int) (hdr : Hid (ops.drop i = op :: ops.drop (i + 1))) (ho0 : 0 ≤ op) (ho1 : op ≤ 255) (h8 : op % 8 = 4 ∨ op % 8 = 5) :
    Calls Try.prog 37 #[.slice a ops.length capo, .int .i64 (i : Int), .int .i64 (200 - ((k : Int) + 1)), v] w fun e w' => Gend e w w' B ops i out (Pl.gen (k + 1) (ops.drop i)) := by
  obtain ⟨sel, hsel⟩ : ∃ sel, op / 8 = sel := ⟨_, rfl⟩
  have hs0 : 0 ≤ sel := by omega
  have hs1 : sel < 32 := by omega
  have a7 := and7 op ho0 ho1
  have HSEL : Hid (op / 8 = sel) := hsel
  obtain ⟨cnt, hcnt⟩ : ∃ cnt : Nat, (cnt : Int) = sel % 4 := ⟨(sel % 4).toNat, by omega⟩
  have hc3 : cnt ≤ 3 := by omega
  have a3 : bits BinOp.and IntKind.u8 sel 3 = (cnt : Int) := by rw [and3 sel hs0 hs1, hcnt]
  have hgen : Hid (Pl.gen (k + 1) (ops.drop i) = (91 :: Pl.opt (Pl.bit 4 sel) [32] ++ ((Pl.kids (Pl.gen k) (Pl.sepA sel) (ops.drop (i + 1)) cnt).1 ++ (Pl.opt (Pl.bit 16 sel) [9] ++ [93])), (Pl.kids (Pl.gen k) (Pl.sepA sel) (ops.drop (i + 1)) cnt).2)) := by
    show _ = _
    rw [hdr.out, Pl.gen, if_neg (by omega), if_neg (by omega), if_neg (by omega), if_pos h8, HSEL.out, show (sel % 4).toNat = cnt from by omega]
  have hkg := fun j => Pl.kids_good (Pl.gen_good k) (Pl.sepA_len sel) (ops.drop (i + 1)) j
  have HKG : Hid (∀ j, ∃ m, m ≤ (ops.drop (i + 1)).length ∧ (Pl.kids (Pl.gen k) (Pl.sepA sel) (ops.drop (i + 1)) j).2 = (ops.drop (i + 1)).drop m ∧ (Pl.kids (Pl.gen k) (Pl.sepA sel) (ops.drop (i + 1)) j).1.length ≤ 100 * m + 22 * j) := hkg
  clear hkg
  have HB4 : Hid ((bits BinOp.and IntKind.u8 sel 4 != 0) = Pl.bit 4 sel) := bit4 sel hs0 hs1
  have HB8 : Hid ((bits BinOp.and IntKind.u8 sel 8 != 0) = Pl.bit 8 sel) := bit8 sel hs0 hs1
  have HB16 : Hid ((bits BinOp.and IntKind.u8 sel 16 != 0) = Pl.bit 16 sel) := bit16 sel hs0 hs1
  have HIH : Hid (GenIH a capo ops B k) := IH
  clear hcnt IH
  obtain ⟨bd, off, op', rfl, hc, hdr'⟩ := hb.atH hil
  obtain rfl : op = op' := (List.cons.inj (hdr.out.symm.trans hdr'.out)).1
  clear hdr'
  rcases h8 with h8 | h8
  iterate 2
    · rw [h8] at a7
      clear h8
      have td1 : decide (ops.length ≤ i) = false := by simp; omega
      have td2 : decide ((200 : Int) ≤ 200 - ((k : Int) + 1)) = false := by simp; omega
      go_enter Try.func37, Try.ntmps37
      go_upto_region 17 with fail
      clear td1 td2
      go_cut [3] from 15 to 66 (fun t wr => Own wr B t (out ++ [91]) ∧ Below B w wr)
      case first =>
        go_wp2_with (at_builtin; refine wp_app (zs := [91]) rfl _ _ rfl rfl (hown.alloc _) rfl rfl (new_bs _ [91]) (by simp <;> omega) (by simp <;> omega) ?_; intro v2 w2 hown2 hgrow2)
        go_meet
        case rel => exact ⟨hown2, ((Below.refl _ _).alloc hB _).grown hgrow2 (by simp; omega) hown.block_ge⟩
      case rest =>
      obtain ⟨hown1, hb1⟩ := hcut
      clear hown hc
      have hsz1 := hb1.size
      go_step
      go_step
      go_cut [3] from 67 to 72 (fun t wr => Own wr B t (out ++ (91 :: Pl.opt (Pl.bit 4 sel) [32])) ∧ Below B w wr)
      case first =>
        rcases hbt : Pl.bit 4 sel with _ | _
        · have t4 : (bits BinOp.and IntKind.u8 sel 4 != 0) = false := by rw [HB4.out, hbt]
          have hbt : Hid (Pl.bit 4 sel = false) := hbt
          go_wp2
          go_meet
          case rel => exact ⟨by simpa [Pl.opt, hbt.out] using hown1, hb1⟩
        · have t4 : (bits BinOp.and IntKind.u8 sel 4 != 0) = true := by rw [HB4.out, hbt]
          have hbt : Hid (Pl.bit 4 sel = true) := hbt
          go_wp2_with (at_builtin; refine wp_app (zs := [32]) rfl _ _ rfl rfl (hown1.alloc _) rfl rfl (new_bs _ [32]) (by simp <;> omega) (by simp <;> omega) ?_; intro v2 w2 hown2 hgrow2)
          go_meet
          case rel => exact ⟨by simpa [Pl.opt, hbt.out] using hown2, (hb1.alloc (by omega) _).grown hgrow2 (by simp; omega) hown1.block_ge⟩
      case rest =>
      clear hown1 hb1 hsz1
      obtain ⟨hown1, hb1⟩ := hcut
      have hsz1 := hb1.size
      generalize hH : (91 :: Pl.opt (Pl.bit 4 sel) [32]) = H at hown1
      have HH : Hid ((91 :: Pl.opt (Pl.bit 4 sel) [32]) = H) := hH
      have hHl : H.length ≤ 2 := by
        rw [← hH]
        have := Pl.opt_len (Pl.bit 4 sel) [32]
        simp at this ⊢
        omega
      clear hH
      generalize hKK : Pl.kids (Pl.gen k) (Pl.sepA sel) (ops.drop (i + 1)) = KK at HKG
      have HKK : Hid (Pl.kids (Pl.gen k) (Pl.sepA sel) (ops.drop (i + 1)) = KK) := hKK
      clear hKK
      go_wp2_with fail
      go_loopg [1, 3, 13] cnt (fun gh s1 s3 s13 wr => ∃ j i' : Nat, gh = cnt - j ∧ j ≤ cnt ∧ s13 = .int .i64 j ∧ s1 = .int .i64 i' ∧ i + 1 ≤ i' ∧ i' ≤ ops.length ∧ Hid ((KK j).2 = ops.drop i') ∧ Own wr B s3 (out ++ H ++ (KK j).1) ∧ Below B w wr)
      case atStart => exact ⟨0, i + 1, rfl, Nat.zero_le _, rfl, by go_num, Nat.le_refl _, by omega, by rw [← HKK.out]; rfl, by rw [← HKK.out]; simpa [Pl.kids] using hown1, hb1⟩
      case round =>
        clear hown1 hb1 hsz1
        obtain ⟨j, i', rfl, hj, rfl, rfl, hi1, hi2, hrest, hown1, hb1⟩ := hrel
        have hsz1 := hb1.size
        have hkl := kk_len HKG hrest hi1 hi2
        by_cases hjc : j < cnt
        · have hstep : Hid (KK (j + 1) = ((KK j).1 ++ (Pl.sepA sel j ++ (Pl.gen k (ops.drop i')).1), (Pl.gen k (ops.drop i')).2)) := by
            show _ = _
            rw [← hrest.out, ← HKK.out]
            rfl
          go_upto_if 79 with fail
          go_cut [3] from 73 to 88 (fun t wr => Own wr B t (out ++ H ++ (KK j).1 ++ Pl.sepA sel j) ∧ Below B w wr)
          case first =>
            by_cases hj0 : j = 0
            · subst hj0
              go_wp2
              go_meet
              case rel => exact ⟨by simpa [Pl.sepA] using hown1, hb1⟩
            · have hjp : (0 : Int) < (j : Int) := by omega
              go_upto_region 25 with (at_builtin; refine wp_app (zs := [44]) rfl _ _ rfl rfl (hown1.alloc _) rfl rfl (new_bs _ [44]) (by simp <;> omega) (by simp <;> omega) ?_; intro v2 w2 hown2 hgrow2)
              have hb2 := (hb1.alloc (by omega) (.cells #[.int .u8 44] 5)).grown hgrow2 (by simp; omega) hown1.block_ge
              have hsz2 := hb2.size
              clear hgrow2
              rcases hbt : Pl.bit 8 sel with _ | _
              · have t4 : (bits BinOp.and IntKind.u8 sel 8 != 0) = false := by rw [HB8.out, hbt]
                have hbt : Hid (Pl.bit 8 sel = false) := hbt
                go_wp2
                go_meet
                case rel => exact ⟨by simpa [Pl.sepA, Pl.opt, hbt.out, hj0] using hown2, hb2⟩
              · have t4 : (bits BinOp.and IntKind.u8 sel 8 != 0) = true := by rw [HB8.out, hbt]
                have hbt : Hid (Pl.bit 8 sel = true) := hbt
                go_wp2_with (at_builtin; refine wp_app (zs := [10]) rfl _ _ rfl rfl (hown2.alloc _) rfl rfl (new_bs _ [10]) (by simp <;> omega) (by simp <;> omega) ?_; intro v3 w3 hown3 hgrow3)
                go_meet
                case rel => exact ⟨by simpa [Pl.sepA, Pl.opt, hbt.out, hj0] using hown3, (hb2.alloc (by omega) _).grown hgrow3 (by simp; omega) hown2.block_ge⟩
          case rest =>
          clear hown1 hb1 hsz1
          obtain ⟨hown1, hb1⟩ := hcut
          have hsz1 := hb1.size
          have hsl := Pl.sepA_len sel j
          go_wp2_with fail
          refine (HIH.out _ i' _ _ _ (by omega) (by omega) (hb.below hb1 hlt) hlt hown1 (by omega) hi2 (by simp; omega)).mono ?_
          rintro e w3 ⟨v3, i3, rfl, hown3, hb3, hi3, hi4, hrest3⟩
          have hb4 := hb1.trans hb3
          clear hb3 hown1
          go_wp2_with fail
          go_roundg (cnt - (j + 1))
          case measure => omega
          case rel => exact ⟨j + 1, i3, rfl, by omega, by go_num, rfl, by omega, hi4, by show _ = _; rw [hstep.out]; exact hrest3, by rw [hstep.out]; simpa using hown3, hb4⟩
        · obtain rfl : j = cnt := by omega
          go_upto_if 100 with fail
          go_cut [3] from 15 to 103 (fun t wr => Own wr B t (out ++ H ++ (KK j).1 ++ Pl.opt (Pl.bit 16 sel) [9]) ∧ Below B w wr)
          case first =>
            rcases hbt : Pl.bit 16 sel with _ | _
            · have t4 : (bits BinOp.and IntKind.u8 sel 16 != 0) = false := by rw [HB16.out, hbt]
              have hbt : Hid (Pl.bit 16 sel = false) := hbt
              go_wp2
              go_meet
              case rel => exact ⟨by simpa [Pl.opt, hbt.out] using hown1, hb1⟩
            · have t4 : (bits BinOp.and IntKind.u8 sel 16 != 0) = true := by rw [HB16.out, hbt]
              have hbt : Hid (Pl.bit 16 sel = true) := hbt
              go_wp2_with (at_builtin; refine wp_app (zs := [9]) rfl _ _ rfl rfl (hown1.alloc _) rfl rfl (new_bs _ [9]) (by simp <;> omega) (by simp <;> omega) ?_; intro v3 w3 hown3 hgrow3)
              go_meet
              case rel => exact ⟨by simpa [Pl.opt, hbt.out] using hown3, (hb1.alloc (by omega) _).grown hgrow3 (by simp; omega) hown1.block_ge⟩
          case rest =>
          clear hown1 hb1 hsz1
          obtain ⟨hown1, hb1⟩ := hcut
          have hsz1 := hb1.size
          have hol := Pl.opt_len (Pl.bit 16 sel) [9]
          simp at hol
          go_wp2_with (at_builtin; refine wp_app (zs := [93]) rfl _ _ rfl rfl (hown1.alloc _) rfl rfl (new_bs _ [93]) (by simp <;> omega) (by simp <;> omega) ?_; intro v3 w3 hown3 hgrow3)
          go_ret2
          exact ⟨v3, i', rfl, by rw [hgen.out, HKK.out]; show Own w3 B v3 (out ++ ((91 :: Pl.opt (Pl.bit 4 sel) [32]) ++ _)); rw [HH.out]; simpa using hown3, (hb1.alloc (by omega) _).grown hgrow3 (by simp; omega) hown1.block_ge, by omega, hi2, by rw [hgen.out, HKK.out]; exact hrest⟩
end
end Go.Proofs.Qxb6600109a
