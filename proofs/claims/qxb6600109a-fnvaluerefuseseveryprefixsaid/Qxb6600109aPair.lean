import Derived.Test.Qxb6600109aBuild
import Derived.Test.Qxb6600109aVShape
namespace Go.Proofs.Qxb6600109a
open Go.RowKit

/-- An array of two built values. -/
def Pl.pairT (ops : List Int) : List Int := 91 :: ((Pl.gen 200 ops).1 ++ 44 :: ((Pl.gen 200 (Pl.gen 200 ops).2).1 ++ [93]))

theorem pair_len (ops : List Int) : (Pl.pairT ops).length ≤ 200 * ops.length + 11 := by
  obtain ⟨m, hm, e, h1⟩ := Pl.gen_good 200 ops
  have h2 := gen_len 200 (Pl.gen 200 ops).2
  rw [e] at h2
  simp only [List.length_drop] at h2
  simp only [Pl.pairT, List.length_cons, List.length_append, List.length_nil]
  rw [e]
  omega
theorem pair_by (ops : List Int) : Byts (Pl.pairT ops) :=
  Byts.cons (by omega) (by omega) ((gen_by _ _).app (Byts.cons (by omega) (by omega) ((gen_by _ _).app (byts_lit rfl))))

/-- It is read whole. -/
theorem pair_reads (ops : List Int) (n : Nat) : ∃ F, fuel n ≤ F ∧ Pl.val F 0 true 0 (Pl.pairT ops) = some [] := by
  obtain ⟨f1, h1⟩ := gen_reads 200 ops 1 (44 :: ((Pl.gen 200 (Pl.gen 200 ops).2).1 ++ [93])) (by omega) (delim_cons (by simp) _)
  obtain ⟨f2, h2⟩ := gen_reads 200 (Pl.gen 200 ops).2 1 [93] (by omega) (delim_cons (by simp) _)
  obtain ⟨c, s, e, hc, h93, _, _⟩ := gen_head 200 ops
  have hv1 := h1 (f1 + f2 + fuel n + 2) (by omega)
  have hv2 := h2 (f1 + f2 + fuel n + 1) (by omega)
  refine ⟨f1 + f2 + fuel n + 2 + 1 + 1, by omega, ?_⟩
  rw [Pl.pairT, val0_cons (ws_no (by decide)), if_neg (by decide), if_neg (by decide), if_pos rfl, if_neg (by omega)]
  have hw : Pl.ws ((Pl.gen 200 ops).1 ++ 44 :: ((Pl.gen 200 (Pl.gen 200 ops).2).1 ++ [93])) = c :: (s ++ 44 :: ((Pl.gen 200 (Pl.gen 200 ops).2).1 ++ [93])) := by
    rw [e, List.cons_append, ws_no hc]
  rw [val1_more (first := true) hw h93 rfl, ← List.cons_append, ← e, hv1]
  simp only [Option.bind_some]
  rw [val1_more (first := false) (c := 44) (ws_no (by decide)) (by decide) (l1 := (Pl.gen 200 (Pl.gen 200 ops).2).1 ++ [93]) (by simp [Pl.comma, Pl.expect, ws_no (show Pl.isWS 44 = false by decide)]), hv2]
  simp only [Option.bind_some]
  rw [val1_end (ws_no (by decide))]

/-- No proper beginning of it is read. -/
theorem prefix_none {F m : Nat} {rest : List Int} (h : Pl.val F 0 true 0 (91 :: rest) = some []) (hm : m < (91 :: rest).length) : Pl.val F 0 true 0 ((91 :: rest).take m) = none := by
  cases F with
  | zero => simp [Pl.val] at h
  | succ f =>
    cases m with
    | zero => exact val0_nil rfl
    | succ m =>
      rw [val0_cons (ws_no (by decide)), if_neg (by decide), if_neg (by decide), if_pos rfl, if_neg (by omega)] at h
      rw [List.take_succ_cons, val0_cons (ws_no (by decide)), if_neg (by decide), if_neg (by decide), if_pos rfl, if_neg (by omega)]
      cases hv : Pl.val f 1 true (0 + 1) (rest.take m) with
      | none => rfl
      | some r =>
        obtain ⟨v, e, hr⟩ := val_cut _ _ _ _ _ _ hv
        have e2 : rest = v ++ (r ++ rest.drop m) := by
          rw [← List.append_assoc, ← e, List.take_append_drop]
        have := hr (r ++ rest.drop m) (fun e => by cases e)
        rw [← e2, h] at this
        have hl := congrArg (fun x => (x.getD []).length) this
        simp at hl hm
        omega

set_option maxRecDepth 100000 in
theorem pair_any {w : World} {a : Option Addr} {n cap : Nat} {ops : List Int} (h : Bs w a ops) (en : n = ops.length) (hn : ops.length ≤ 100000) (hby : ∀ c ∈ ops, 0 ≤ c ∧ c ≤ 255) :
    Calls Try.prog 33 #[.slice a n cap] w fun e w' => ∃ v, e = .returned v ∧ Own w' w.heap.size v (Pl.pairT ops) ∧ Below w.heap.size w w' := by
  subst en
  obtain ⟨i0, hi, hz0, hz1, hz2⟩ := info_parts Try.info5
  go_enter Try.func33, Try.ntmps33
  go_upto_region 2 with (at_make; refine wpList_make_own _ rfl _ _ 22 rfl w.heap.size 5 i0 (.int .u8 0) 1 Try.underlying22 hi hz0 hz1 .i64 .i64 _ 16 rfl rfl (by omega) (by rw [hz2]; omega) (by unfold maxLen; omega) (Nat.le_refl _) ?_; intro w1 hown hgrow)
  have hb1 : Below w.heap.size w w1 := (Below.refl _ _).grown hgrow (Nat.le_refl _) (fun k e => by cases e)
  have hown1 : Own w1 w.heap.size _ [] := hown
  have hsz1 := hb1.size
  clear hgrow hown
  go_upto_region 3 with (at_builtin; refine wp_app (zs := [91]) rfl _ _ rfl rfl (hown1.alloc _) rfl rfl (new_bs _ [91]) (by simp <;> omega) (by simp <;> omega) ?_; intro v2 w2 hown2 hgrow2)
  have hb2 := (hb1.alloc hsz1 (.cells #[.int .u8 91] 5)).grown hgrow2 (by simp; omega) hown1.block_ge
  have hsz2 := hb2.size
  clear hgrow2 hown1 hb1
  go_wp2_with fail
  refine (gen_any (B := w.heap.size) hby hn 200 w2 0 0 _ _ (Nat.le_refl _) (by omega) (h.below hb2 h.lt) h.lt hown2 hsz2 (Nat.zero_le _) (by simp; omega)).mono ?_
  rintro e w3 ⟨v3, i3, rfl, hown3, hb3, _, hi3, hr3⟩
  rw [List.drop_zero] at hown3 hr3
  have hl3 := gen_len 200 ops
  have hb4 := hb2.trans hb3
  have hsz4 := hb4.size
  clear hb2 hb3 hown2
  go_upto_region 6 with (at_builtin; refine wp_app (zs := [44]) rfl _ _ rfl rfl (hown3.alloc _) rfl rfl (new_bs _ [44]) (by simp <;> omega) (by simp <;> omega) ?_; intro v5 w5 hown5 hgrow5)
  have hb5 := (hb4.alloc hsz4 (.cells #[.int .u8 44] 5)).grown hgrow5 (by simp; omega) hown3.block_ge
  have hsz5 := hb5.size
  clear hgrow5 hown3 hb4
  go_wp2_with fail
  refine (gen_any (B := w.heap.size) hby hn 200 w5 i3 0 _ _ (Nat.le_refl _) (by omega) (h.below hb5 h.lt) h.lt hown5 hsz5 hi3 (by simp; omega)).mono ?_
  rintro e w6 ⟨v6, i6, rfl, hown6, hb6, _, hi6, _⟩
  rw [← hr3.out] at hown6
  have hl6 := gen_len 200 (Pl.gen 200 ops).2
  have hl7 : (Pl.gen 200 ops).2.length ≤ ops.length := by rw [hr3.out]; simp
  have hb7 := hb5.trans hb6
  have hsz7 := hb7.size
  clear hb5 hb6 hown5
  go_wp2_with (at_builtin; refine wp_app (zs := [93]) rfl _ _ rfl rfl (hown6.alloc _) rfl rfl (new_bs _ [93]) (by simp <;> omega) (by simp <;> omega) ?_; intro v8 w8 hown8 hgrow8)
  go_ret
  exact ⟨v8, rfl, by unfold Pl.pairT; simpa using hown8, (hb7.alloc hsz7 _).grown hgrow8 (by simp; omega) hown6.block_ge⟩
end Go.Proofs.Qxb6600109a
