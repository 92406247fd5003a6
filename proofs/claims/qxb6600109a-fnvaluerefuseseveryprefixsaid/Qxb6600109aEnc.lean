import Derived.Test.Qxb6600109aOwn
import Derived.Test.Qxb6600109aEncP
import Derived.Test.Qxb6600109aEscape
namespace Go.Proofs.Qxb6600109a
open Go.RowKit

theorem retH {k : IntKind} {a b : Int} (h : a = b) : Ending.returned (.int k a) = .returned (.int k b) := by rw [h]

theorem new_bs (w : World) (zs : List Int) : Bs (w.alloc (.cells (zs.map byt).toArray 5)) (some ⟨w.heap.size, 0, none⟩) zs := Row.bs (heap_alloc_new w _)

theorem and1 (c : Int) (h0 : 0 ≤ c) (h : c < 32) : bits BinOp.and IntKind.u8 c 1 = c % 2 := by
  have key : ∀ n : Nat, n < 32 → bits BinOp.and IntKind.u8 (n : Int) 1 = (n : Int) % 2 := by decide +kernel
  obtain ⟨n, rfl⟩ := Int.eq_ofNat_of_zero_le h0
  exact key n (by omega)
theorem and15 (c : Int) (h0 : 0 ≤ c) (h : c < 32) : bits BinOp.and IntKind.u8 c 15 = c % 16 := by
  have key : ∀ n : Nat, n < 32 → bits BinOp.and IntKind.u8 (n : Int) 15 = (n : Int) % 16 := by decide +kernel
  obtain ⟨n, rfl⟩ := Int.eq_ofNat_of_zero_le h0
  exact key n (by omega)

theorem hx_any (v : Int) (up : Bool) (w : World) (h0 : 0 ≤ v) (h1 : v ≤ 15) : Calls Try.prog 35 #[.int .u8 v, .bool up] w fun e w' => e = .returned (.int .u8 (Pl.hx v up)) ∧ w' = w := by
  by_cases h : v < 10
  · go_enter Try.func35, Try.ntmps35
    go_wp2
    go_ret
    exact ⟨retH (by simp [Pl.hx, h]), rfl⟩
  · cases up with
    | true =>
      go_enter Try.func35, Try.ntmps35
      go_wp2
      go_ret
      exact ⟨retH (by rw [Pl.hx, if_neg (by omega)]; rfl), rfl⟩
    | false =>
      go_enter Try.func35, Try.ntmps35
      go_wp2
      go_ret
      exact ⟨retH (by rw [Pl.hx, if_neg (by omega)]; rfl), rfl⟩

section
variable {w : World} {a : Option Addr} {cap : Nat} {zs : List Int}

set_option maxRecDepth 100000 in
set_option maxHeartbeats 2000000 in
theorem enc_any {n : Nat} (h : Bs w a zs) (en : n = zs.length) (hn : zs.length ≤ 100000000) (hby : ∀ c ∈ zs, 0 ≤ c ∧ c ≤ 255) :
    Calls Try.prog 19 #[.slice a n cap] w fun e w' => ∃ v, e = .returned v ∧ Own w' w.heap.size v (Pl.enc zs) ∧ Below w.heap.size w w' := by
  subst en
  obtain ⟨i0, hi, hz0, hz1, hz2⟩ := info_parts Try.info5
  go_enter Try.func19, Try.ntmps19
  go_wp2_with (at_make; refine wpList_make_own _ rfl _ _ 22 rfl w.heap.size 5 i0 (.int .u8 0) 1 Try.underlying22 hi hz0 hz1 .i64 .i64 _ (6 * zs.length) rfl rfl (by omega) (by rw [hz2]; omega) (by unfold maxLen; omega) (Nat.le_refl _) ?_; intro w1 hown hgrow)
  have hb : Below w.heap.size w w1 := (Below.refl _ _).grown hgrow (Nat.le_refl _) (fun k e => by cases e)
  have hown : Own w1 w.heap.size _ [] := hown
  clear hgrow
  go_loopw [3, 4] (fun v t wr => ∃ k : Nat, k ≤ zs.length ∧ t = .int .i64 k ∧ Own wr w.heap.size v (Pl.enc (zs.take k)) ∧ Below w.heap.size w wr) (fun _ t _ => zs.length - (intOf t).toNat)
  case atStart => exact ⟨0, Nat.zero_le _, rfl, hown, hb⟩
  case round =>
    clear hown hb
    obtain ⟨k, hk, rfl, hown, hb⟩ := hrel
    by_cases hlt : k < zs.length
    · obtain ⟨bd, off, c, rfl, hc, hdr⟩ := (h.belowAll hb).at hlt
      have hcb := hby c (List.mem_of_mem_drop (i := k) (by rw [hdr]; simp))
      have hstep : ∀ news, Pl.enc1 c = news → Hid (Pl.enc (zs.take (k + 1)) = Pl.enc (zs.take k) ++ news) := by
        intro news e
        show _ = _
        rw [List.take_succ_eq_append_getElem hlt, Pl.enc_snoc, ← e]
        have := List.drop_eq_getElem_cons hlt
        rw [hdr] at this
        rw [(List.cons.inj this).1]
      have hlen := Pl.enc_len (zs.take k)
      rw [List.length_take] at hlen
      clear hdr
      have hsz := hb.size
      by_cases hA : c = 34 ∨ c = 92 ∨ c = 47
      · have hst := hstep [92, c] (by simp [Pl.enc1, hA])
        clear hstep
        rcases hA with rfl | rfl | rfl
        all_goals
          go_wp2_with (at_builtin; refine wp_app (zs := [92, _]) rfl _ _ rfl rfl (hown.alloc _) rfl rfl (new_bs wr [92, _]) (by simp; omega) (by simp; omega) ?_; intro v' w2 hown2 hgrow2)
          go_roundw
          case rel => exact ⟨k + 1, by omega, by go_num, by rw [hst.out]; exact hown2, (hb.alloc hsz _).grown hgrow2 (by simp; omega) hown.block_ge⟩
          case measure => simp [intOf]; omega
      · by_cases hB : c = 10 ∨ c = 9 ∨ c = 13 ∨ c = 8 ∨ c = 12
        · have hst : ∃ x, Hid (Pl.enc (zs.take (k + 1)) = Pl.enc (zs.take k) ++ [92, x]) ∧ ((c = 10 ∧ x = 110) ∨ (c = 9 ∧ x = 116) ∨ (c = 13 ∧ x = 114) ∨ (c = 8 ∧ x = 98) ∨ (c = 12 ∧ x = 102)) := by
            rcases hB with rfl | rfl | rfl | rfl | rfl
            · exact ⟨110, hstep _ rfl, by simp⟩
            · exact ⟨116, hstep _ rfl, by simp⟩
            · exact ⟨114, hstep _ rfl, by simp⟩
            · exact ⟨98, hstep _ rfl, by simp⟩
            · exact ⟨102, hstep _ rfl, by simp⟩
          obtain ⟨x, hst, hcx⟩ := hst
          clear hstep hA hB
          rcases hcx with ⟨rfl, rfl⟩ | ⟨rfl, rfl⟩ | ⟨rfl, rfl⟩ | ⟨rfl, rfl⟩ | ⟨rfl, rfl⟩
          all_goals
            go_wp2_with (at_builtin; refine wp_app (zs := [92, _]) rfl _ _ rfl rfl (hown.alloc _) rfl rfl (new_bs wr [92, _]) (by simp; omega) (by simp; omega) ?_; intro v' w2 hown2 hgrow2)
            go_roundw
            case rel => exact ⟨k + 1, by omega, by go_num, by rw [hst.out]; exact hown2, (hb.alloc hsz _).grown hgrow2 (by simp; omega) hown.block_ge⟩
            case measure => simp [intOf]; omega
        · have t1 : (c == 34) = false := by simp; omega
          have t2 : (c == 92) = false := by simp; omega
          have t3 : (c == 47) = false := by simp; omega
          have t4 : (c == 10) = false := by simp; omega
          have t5 : (c == 9) = false := by simp; omega
          have t6 : (c == 13) = false := by simp; omega
          have t7 : (c == 8) = false := by simp; omega
          have t8 : (c == 12) = false := by simp; omega
          by_cases hC : c < 32
          · have hst := hstep [92, 117, 48, 48, Pl.hx (c / 16) (c % 2 == 1), Pl.hx (c % 16) (c % 2 == 1)] (by rw [Pl.enc1, if_neg hA, if_neg (by omega), if_neg (by omega), if_neg (by omega), if_neg (by omega), if_neg (by omega), if_pos hC])
            clear hstep hA hB
            have hb1 : bits BinOp.and IntKind.u8 c 1 = c % 2 := and1 c hcb.1 hC
            have hb2 : bits BinOp.and IntKind.u8 c 15 = c % 16 := and15 c hcb.1 hC
            go_wp2_with fail
            refine (hx_any _ _ _ (by omega) (by omega)).mono ?_
            rintro e w' ⟨rfl, rfl⟩
            go_wp2_with fail
            refine (hx_any _ _ _ (by omega) (by omega)).mono ?_
            rintro e w' ⟨rfl, rfl⟩
            go_wp2_with (at_builtin; refine wp_app (zs := [92, 117, 48, 48, _, _]) rfl _ _ rfl rfl (hown.alloc _) rfl rfl (new_bs _ [92, 117, 48, 48, _, _]) (by simp; omega) (by simp; omega) ?_; intro v' w2 hown2 hgrow2)
            go_roundw
            case rel => exact ⟨k + 1, by omega, by go_num, by rw [hst.out]; exact hown2, (hb.alloc hsz _).grown hgrow2 (by simp; omega) hown.block_ge⟩
            case measure => simp [intOf]; omega
          · have hst := hstep [c] (by rw [Pl.enc1, if_neg hA, if_neg (by omega), if_neg (by omega), if_neg (by omega), if_neg (by omega), if_neg (by omega), if_neg hC])
            clear hstep hA hB
            go_wp2_with (at_builtin; refine wp_app (zs := [_]) rfl _ _ rfl rfl (hown.alloc _) rfl rfl (new_bs wr [_]) (by simp; omega) (by simp; omega) ?_; intro v' w2 hown2 hgrow2)
            go_roundw
            case rel => exact ⟨k + 1, by omega, by go_num, by rw [hst.out]; exact hown2, (hb.alloc hsz _).grown hgrow2 (by simp; omega) hown.block_ge⟩
            case measure => simp [intOf]; omega
    · go_wp2
      go_ret
      rw [List.take_of_length_le (by omega)] at hown
      exact ⟨_, rfl, hown, hb⟩
end
end Go.Proofs.Qxb6600109a
