import Derived.Test.Qxb6600109aGenO
namespace Go.Proofs.Qxb6600109a
open Go.RowKit

section
variable {a : Option Addr} {capo : Nat} {ops : List Int} {B : Nat}

set_option maxRecDepth 100000 in
theorem gen_null (w : World) (k i : Nat) (x : Int) (v : Value) (out : List Int) (hx : x = 200 - (k : Int)) (hk : k ≤ 200) (hown : Own w B v out) (hB : B ≤ w.heap.size) (hi : i ≤ ops.length)
    (hlen : out.length + 100 * (ops.length - i) + 200 ≤ 100000000) (hs : ¬ i < ops.length ∨ k = 0) :
    Calls Try.prog 37 #[.slice a ops.length capo, .int .i64 (i : Int), .int .i64 x, v] w fun e w' => Gend e w w' B ops i out (Pl.gen k (ops.drop i)) := by
  have hgen : Hid (Pl.gen k (ops.drop i) = (Pl.nullT, ops.drop i)) := by
    show _ = _
    rcases hs with h | rfl
    · rw [List.drop_of_length_le (by omega)]
      cases k <;> rfl
    · rfl
  subst hx
  by_cases hil : i < ops.length
  · obtain rfl : k = 0 := by omega
    go_enter Try.func37, Try.ntmps37
    go_wp2_with (at_builtin; refine wp_app_str (zs := Pl.nullT) rfl _ _ rfl rfl hown rfl (by simp [Pl.nullT]) (by simp [Pl.nullT]; omega) hB ?_; intro v' w2 hown2 hgrow2)
    go_ret2
    exact ⟨v', i, rfl, by rw [hgen.out]; exact hown2, (Below.refl _ _).grown hgrow2 hB hown.block_ge, Nat.le_refl _, hi, by rw [hgen.out]; rfl⟩
  · clear hs
    go_enter Try.func37, Try.ntmps37
    go_wp2_with (at_builtin; refine wp_app_str (zs := Pl.nullT) rfl _ _ rfl rfl hown rfl (by simp [Pl.nullT]) (by simp [Pl.nullT]; omega) hB ?_; intro v' w2 hown2 hgrow2)
    go_ret2
    exact ⟨v', i, rfl, by rw [hgen.out]; exact hown2, (Below.refl _ _).grown hgrow2 hB hown.block_ge, Nat.le_refl _, hi, by rw [hgen.out]; rfl⟩

set_option maxRecDepth 100000 in
set_option maxHeartbeats 4000000 in
theorem gen_any (hby : ∀ c ∈ ops, 0 ≤ c ∧ c ≤ 255) (hn : ops.length ≤ 100000) (k : Nat) : GenIH a capo ops B k := by
  induction k with
  | zero =>
    intro w i x v out hk hx hb hlt hown hB hi hlen
    exact gen_null w 0 i x v out hx hk hown hB hi hlen (.inr rfl)
  | succ k ih =>
    intro w i x v out hk hx hb hlt hown hB hi hlen
    by_cases hil : i < ops.length
    · obtain ⟨bd, off, op, rfl, hc, hdr⟩ := hb.atH hil
      obtain ⟨ho0, ho1⟩ := hby op (List.mem_of_mem_drop (i := i) (by rw [hdr.out]; simp))
      have hx' : x = 200 - ((k : Int) + 1) := by omega
      subst hx'
      clear hx
      by_cases h45 : op % 8 = 4 ∨ op % 8 = 5
      · exact gen_arr ih w i v out hk hb hlt hown hB hn hlen hil op hdr ho0 ho1 h45
      · by_cases h67 : op % 8 = 6 ∨ op % 8 = 7
        · exact gen_obj ih w i v out hk hb hlt hown hB hn hlen hil op hdr ho0 ho1 h67
        · have IH : Hid (GenIH (some ⟨bd, off, none⟩) capo ops B k) := ih
          clear ih IH
          obtain ⟨sel, hsel⟩ : ∃ sel, op / 8 = sel := ⟨_, rfl⟩
          have hs0 : 0 ≤ sel := by omega
          have hs1' : sel ≤ 255 := by omega
          have a7 := and7 op ho0 ho1
          have HSEL : Hid (op / 8 = sel) := hsel
          rcases (show op % 8 = 0 ∨ op % 8 = 1 ∨ op % 8 = 2 ∨ op % 8 = 3 from by omega) with h8 | h8 | h8 | h8
          iterate 2
            · have hgen : Hid (Pl.gen (k + 1) (ops.drop i) = (Pl.numText sel, ops.drop (i + 1))) := by
                show _ = _
                rw [hdr.out, Pl.gen, if_pos (by omega), HSEL.out]
              rw [h8] at a7
              clear h8 h45 h67
              go_enter Try.func37, Try.ntmps37
              go_wp2_with (first | (go_at_call 43; refine (numText_any _ _ hs0 hs1').mono ?_; rintro e w' ⟨rfl, hw⟩; obtain rfl := hw.symm) | (at_builtin; refine wp_app_str (zs := Pl.numText sel) rfl _ _ rfl rfl hown rfl (numText_by _) (by have := Pl.numText_len sel; omega) hB ?_; intro v' w2 hown2 hgrow2))
              go_ret2
              exact ⟨v', i + 1, rfl, by rw [hgen.out]; exact hown2, (Below.refl _ _).grown hgrow2 hB hown.block_ge, by omega, by omega, by rw [hgen.out]; rfl⟩
          · have hgen : Hid (Pl.gen (k + 1) (ops.drop i) = (Pl.strText sel, ops.drop (i + 1))) := by
              show _ = _
              rw [hdr.out, Pl.gen, if_neg (by omega), if_pos (by omega), HSEL.out]
            rw [h8] at a7
            clear h8 h45 h67
            go_enter Try.func37, Try.ntmps37
            go_wp2_with (first | (go_at_call 44; refine (strText_any _ _ hs0 hs1').mono ?_; rintro e w' ⟨rfl, hw⟩; obtain rfl := hw.symm) | (at_builtin; refine wp_app_str (zs := Pl.strText sel) rfl _ _ rfl rfl hown rfl (strText_by _) (by have := Pl.strText_len sel; omega) hB ?_; intro v' w2 hown2 hgrow2))
            go_ret2
            exact ⟨v', i + 1, rfl, by rw [hgen.out]; exact hown2, (Below.refl _ _).grown hgrow2 hB hown.block_ge, by omega, by omega, by rw [hgen.out]; rfl⟩
          · have hgen : Hid (Pl.gen (k + 1) (ops.drop i) = (Pl.litText sel, ops.drop (i + 1))) := by
              show _ = _
              rw [hdr.out, Pl.gen, if_neg (by omega), if_neg (by omega), if_pos (by omega), HSEL.out]
            rw [h8] at a7
            clear h8 h45 h67
            go_enter Try.func37, Try.ntmps37
            go_wp2_with (first | (go_at_call 45; refine (litText_any _ _ hs0 hs1').mono ?_; rintro e w' ⟨rfl, hw⟩; obtain rfl := hw.symm) | (at_builtin; refine wp_app_str (zs := Pl.litText sel) rfl _ _ rfl rfl hown rfl (litText_by _) (by have := Pl.litText_len sel; omega) hB ?_; intro v' w2 hown2 hgrow2))
            go_ret2
            exact ⟨v', i + 1, rfl, by rw [hgen.out]; exact hown2, (Below.refl _ _).grown hgrow2 hB hown.block_ge, by omega, by omega, by rw [hgen.out]; rfl⟩
    · exact gen_null w (k + 1) i x v out hx hk hown hB hi hlen (.inl hil)
end
end Go.Proofs.Qxb6600109a
