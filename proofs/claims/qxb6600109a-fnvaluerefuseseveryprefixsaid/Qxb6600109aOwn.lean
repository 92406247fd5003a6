/-
  A SLICE OF BYTES THAT THE CALL ITSELF GROWS by append: 'Own'.
-/
import Derived.Test.Qxb6600109aRow
import Derived.Laws.AppendOwnNone
namespace Go.Proofs.Qxb6600109a
open Go.RowKit

/-- The slice value v, of the call's own blocks from B on, holds the bytes ys. -/
def Own (w : World) (B : Nat) (v : Value) (ys : List Int) : Prop := w.ownsRow B 5 1 v ys.length (ys.map byt)

theorem Own.nil (w : World) (B : Nat) : Own w B (.slice none 0 0) [] := World.ownsRow_nil _ _ _ _

theorem Own.alloc {w : World} {B : Nat} {v : Value} {ys : List Int} (h : Own w B v ys) (o : Obj) : Own (w.alloc o) B v ys := World.ownsRow.alloc h o

theorem Own.shape {w : World} {B : Nat} {v : Value} {ys : List Int} (h : Own w B v ys) : (v = .slice none 0 0 ∧ ys = []) ∨
    ∃ g cap, v = .slice (some ⟨g, 0, none⟩) ys.length cap ∧ ys.length ≤ cap ∧ cap ≤ maxLen ∧ Bs w (some ⟨g, 0, none⟩) ys ∧ B ≤ g ∧ g < w.heap.size := by
  rcases h.2 with ⟨h1, h2⟩ | ⟨g, cap, cur, hv, hb, hh, hl, hm, hs, ht⟩
  · exact .inl ⟨h1, List.eq_nil_of_length_eq_zero h2⟩
  · refine .inr ⟨g, cap, hv, hl, hm, ?_, hb, lt_of_block hh⟩
    refine Bs.mk fun i hi => ?_
    rw [Nat.zero_add, cell_of_row w g i _ _ _ hh]
    have : (cur.toList.take (ys.length * 1))[i]? = (ys.map byt)[i]? := by rw [ht]
    rw [List.getElem?_take, if_pos (by omega)] at this
    simp only [Array.getElem?_toList] at this
    rw [this]
    simp [List.getElem?_eq_getElem hi, byt]

theorem Own.of_made {w : World} {B n : Nat} {v : Value} (h : w.ownsRow B 5 1 v 0 []) (_ : n = 0) : Own w B v [] := h

/-- What the call owns stays, where the other blocks grow. -/
theorem Own.kept {w w' : World} {B : Nat} {v : Value} {ys : List Int} {row : Option Nat} (h : Own w B v ys) (hg : w.grownBy w' row) (hne : v.ownBlock = none ∨ v.ownBlock ≠ row) : Own w' B v ys := World.ownsRow.kept h hg hne

theorem Own.below {w w' : World} {B B' : Nat} {v : Value} {ys : List Int} (h : Own w B v ys) (hb : Below B' w w') (hlt : w.heap.size ≤ B') : Own w' B v ys := by
  refine ⟨h.1, ?_⟩
  rcases h.2 with h2 | ⟨g, cap, cur, hv, hg, hh, r⟩
  · exact .inl h2
  · exact .inr ⟨g, cap, cur, hv, hg, by rw [hb.block g (by have := lt_of_block hh; omega)]; exact hh, r⟩

theorem Own.block_ge {w : World} {B : Nat} {v : Value} {ys : List Int} (h : Own w B v ys) : ∀ k, v.ownBlock = some k → B ≤ k := fun k hk => (World.ownsRow.lt h k hk).1

theorem Own.mono {w : World} {B B' : Nat} {v : Value} {ys : List Int} (h : Own w B v ys) (hb : B' ≤ B) : Own w B' v ys := by
  refine ⟨h.1, ?_⟩
  rcases h.2 with h2 | ⟨g, cap, cur, hv, hg, r⟩
  · exact .inl h2
  · exact .inr ⟨g, cap, cur, hv, by omega, r⟩

section
variable {w : World} {ops : Array Oper} {rest : List Oper} {o : Oper} {a : Act} {Q : Exit → Act → World → Prop}

/-- 'v = append(v, ..)', v the call's own, what is appended a slice of bytes that is not nil. -/
theorem wp_app (hgd : o.guard = none) (s x : Operand) (ho : o.op = .call { callee := .builtin .append, args := #[s, x], argTypes := #[22, 22] })
    {B : Nat} {v : Value} {ys zs : List Int} (hs : a.eval s = v) (hown : Own w B v ys) {ad : Addr} {n c : Nat} (hx : a.eval x = .slice (some ad) n c) (hn : n = zs.length) (hz : Bs w (some ad) zs)
    (hb : ys.length + zs.length ≤ 1000000000) (hB : B ≤ w.heap.size)
    (h : ∀ v' w', Own w' B v' (ys ++ zs) → w.grownBy w' v.ownBlock → wpList Try.prog ops Q rest (a.put o.dst v') w') : wpList Try.prog ops Q (o :: rest) a w := by
  subst hn
  obtain ⟨i0, hi, hz0, hz1, hz2⟩ := info_parts Try.info5
  refine wpList_append_own _ hgd s x 22 ho B 5 i0 (.int .u8 0) 1 1 Try.underlying22 hi hz0 hz1 hz2 rfl (by decide) v ys.length (ys.map byt) hs hown ad zs.length c (zs.map byt) hx (by simp) ?_ ?_ (by unfold maxLen; omega) (by omega) hB ?_
  · intro j u hu
    have hj : j < zs.length := by
      rcases Nat.lt_or_ge j zs.length with g | g
      · exact g
      · simp [List.getElem?_eq_none (show (zs.map byt).length ≤ j by simpa using g)] at hu
    obtain ⟨bd, off, e, hc⟩ := hz j hj
    cases e
    have e2 : (⟨bd, off, none⟩ : Addr).add j = ⟨bd, off + j, none⟩ := by unfold Addr.add; split <;> simp_all
    rw [e2, hc]
    simp [List.getElem?_eq_getElem hj] at hu
    simp [List.getElem?_eq_getElem hj, ← hu, byt]
  · intro u hu
    simp only [List.mem_map] at hu
    obtain ⟨y, _, rfl⟩ := hu
    rfl
  · intro v' w' h1 h2 _
    refine h v' w' ?_ h2
    unfold Own
    simpa using h1

/-- .. nil. -/
theorem wp_app_nil (hgd : o.guard = none) (s x : Operand) (ho : o.op = .call { callee := .builtin .append, args := #[s, x], argTypes := #[22, 22] })
    {B : Nat} {v : Value} {ys : List Int} (hs : a.eval s = v) (hown : Own w B v ys) (hx : a.eval x = .slice none 0 0)
    (h : wpList Try.prog ops Q rest (a.put o.dst v) w) : wpList Try.prog ops Q (o :: rest) a w := by
  obtain ⟨i0, hi, _, _, _⟩ := info_parts Try.info5
  exact wpList_append_own_none hgd s x 22 ho B 5 i0 1 Try.underlying22 hi v _ _ hs hown hx h

/-- .. whatever slice of bytes the call owns. -/
theorem wp_app_own (hgd : o.guard = none) (s x : Operand) (ho : o.op = .call { callee := .builtin .append, args := #[s, x], argTypes := #[22, 22] })
    {B B2 : Nat} {v u : Value} {ys zs : List Int} (hs : a.eval s = v) (hown : Own w B v ys) (hx : a.eval x = u) (hz : Own w B2 u zs)
    (hb : ys.length + zs.length ≤ 1000000000) (hB : B ≤ w.heap.size)
    (h : ∀ v' w', Own w' B v' (ys ++ zs) → w.grownBy w' v.ownBlock → wpList Try.prog ops Q rest (a.put o.dst v') w') : wpList Try.prog ops Q (o :: rest) a w := by
  rcases hz.shape with ⟨rfl, rfl⟩ | ⟨g, cap, rfl, _, _, hbs, _, _⟩
  · refine wp_app_nil hgd s x ho hs hown hx (h v w (by simpa using hown) ⟨rfl, rfl, rfl, Nat.le_refl _, fun _ _ _ => rfl⟩)
  · exact wp_app hgd s x ho hs hown hx rfl hbs hb hB h
end

theorem Row.own {w : World} {g B : Nat} {ys : List Int} (h : Row w g ys) (hb : B ≤ g) (hm : ys.length ≤ maxLen) : Own w B (.slice (some ⟨g, 0, none⟩) ys.length ys.length) ys :=
  ⟨by simp, .inr ⟨g, ys.length, _, rfl, hb, h, Nat.le_refl _, hm, by simp, List.take_of_length_le (by simp)⟩⟩

/-- jb1Clone: the call's own copy. -/
theorem clone_own {w : World} {a : Option Addr} {n cap : Nat} {zs : List Int} (h : Bs w a zs) (en : n = zs.length) (hn : zs.length ≤ 1000000000) :
    Calls Try.prog 12 #[.slice a n cap] w fun e w' => ∃ v, e = .returned v ∧ Own w' w.heap.size v zs ∧ Below w.heap.size w w' := by
  subst en
  obtain ⟨i0, hi, hz0, hz1, hz2⟩ := info_parts Try.info5
  cases a with
  | none =>
    have h0 : zs = [] := by
      rcases Nat.eq_zero_or_pos zs.length with e | e
      · exact List.eq_nil_of_length_eq_zero e
      · obtain ⟨bd, off, e', _⟩ := h 0 e
        cases e'
    subst h0
    have hq := fun W => Lib.run_eql_slice_nil (P := Try.prog) W 22 5 none 0 cap 0 0 Try.underlying22
    go_enter Try.func12, Try.ntmps12
    go_wp2
    go_ret
    exact ⟨_, rfl, Own.nil _ _, Below.refl _ _⟩
  | some x =>
    have hq := fun W => Lib.run_eql_slice_nil (P := Try.prog) W 22 5 (some x) zs.length cap 0 0 Try.underlying22
    go_enter Try.func12, Try.ntmps12
    go_wp2_with (at_make; refine wpList_make_full _ rfl _ _ 22 rfl w.heap.size 5 i0 (.int .u8 0) 1 Try.underlying22 hi hz0 hz1 .i64 .i64 _ _ zs.length rfl rfl rfl rfl (by rw [hz2]; omega) (by unfold maxLen; omega) (Nat.le_refl _) ?_; intro w1 hown hgrow)
    have hb : Below w.heap.size w w1 := (Below.refl _ _).grown hgrow (Nat.le_refl _) (fun k e => by cases e)
    have hrow := row_made hown rfl
    clear hown hgrow hq
    go_loopw [4] (fun t wr => ∃ (k : Nat) (ys : List Int), k ≤ zs.length ∧ t = .int .i64 k ∧ Hid (ys.length = zs.length ∧ ys.take k = zs.take k) ∧ Row wr w.heap.size ys ∧ Below w.heap.size w wr) (fun t _ => zs.length - (intOf t).toNat)
    case atStart => exact ⟨0, _, Nat.zero_le _, rfl, ⟨by simp, by simp⟩, hrow, hb⟩
    case round =>
      clear hrow hb
      obtain ⟨k, ys, hk, rfl, hy, hrow, hb⟩ := hrel
      by_cases hlt : k < zs.length
      · obtain ⟨bd, off, c, e, hc, hdr⟩ := (h.belowAll hb).at hlt
        cases e
        have hdr : Hid (zs.drop k = c :: zs.drop (k + 1)) := hdr
        have hcg : wr.cell? ⟨w.heap.size, k, none⟩ = some (.int .u8 (ys.getD k 0)) := hrow.cell (by rw [hy.out.1]; exact hlt)
        have hfg := hrow.free k
        go_wp2
        go_roundw
        case rel => exact ⟨k + 1, ys.set k c, by omega, by go_num, ⟨by simp [hy.out.1], take_snoc hlt hy.out.1 hdr.out hy.out.2⟩, hrow.set k c, hb.setCell (Nat.le_refl _) _⟩
        case measure => simp [intOf]; omega
      · go_wp2
        go_ret
        obtain rfl : ys = zs := by
          have h1 := hy.out.2
          rwa [List.take_of_length_le (by rw [hy.out.1]; omega), List.take_of_length_le (by omega)] at h1
        exact ⟨_, rfl, hrow.own (Nat.le_refl _) (by unfold maxLen; omega), hb⟩

end Go.Proofs.Qxb6600109a
