import Derived.Test.Qxb6600109aStr
import Derived.Test.Qxb6600109aRow
namespace Go.Proofs.Qxb6600109a
open Go.RowKit

theorem retI {k : IntKind} {a b : Int} (h : a = b) : Ending.returned (.int k a) = .returned (.int k b) := by rw [h]
theorem new_scanner {w : World} {a : Option Addr} {zs : List Int} (h : Bs w a zs) (cap p : Nat) : Sc (w.alloc (.cells #[.slice a zs.length cap, .int .i64 p, .int .i64 0, .bool false] 45)) w.heap.size a cap zs p 0 false :=
  ⟨heap_alloc_new w _, h.belowAll ((Below.refl _ _).alloc (Nat.le_refl _) _)⟩
theorem new_below {w w' : World} {o : Obj} (h : (w.alloc o).grownBy w' (some w.heap.size)) : Below w.heap.size w w' :=
  ((Below.refl _ _).alloc (Nat.le_refl _) _).grown h (by simp) (fun k e => by cases e; exact Nat.le_refl _)
theorem drewN_below {B : Nat} {a w : World} (h : Below B a w) (n : Nat) : Below B a (w.drewN n) := ⟨h.os, h.tape, h.output, h.size, h.block⟩
theorem below_step {w w1 w2 : World} (h : Below w.heap.size w w1) (k : Below w1.heap.size w1 w2) : Below w.heap.size w w2 := h.trans (k.mono h.size)

section
variable {w : World} {a a2 : Option Addr} {cap cap2 : Nat} {zs : List Int} {p : Nat}

theorem isWS_any (c : Int) (w : World) : Calls Try.prog 24 #[.int .u8 c] w fun e w' => e = .returned (.bool (Pl.isWS c)) ∧ w' = w := by
  rcases ws_cases c with ⟨t1, e⟩ | ⟨t1, t2, e⟩ | ⟨t1, t2, t3, e⟩ | ⟨t1, t2, t3, t4, e⟩ | ⟨t1, t2, t3, t4, e⟩
  all_goals
    go_enter Try.func24, Try.ntmps24
    go_wp2
    go_ret
    exact ⟨retB (by rw [e.out]), rfl⟩

/-- jb1Eq of two slices that hold the same bytes. -/
theorem eq_same {n m : Nat} (h : Bs w a zs) (h2 : Bs w a2 zs) (en : n = zs.length) (em : m = zs.length) (hn : zs.length ≤ 1000000000) :
    Calls Try.prog 22 #[.slice a n cap, .slice a2 m cap2] w fun e w' => e = .returned (.bool true) ∧ Below w.heap.size w w' := by
  subst en
  subst em
  go_enter Try.func22, Try.ntmps22
  go_wp2
  go_loopw [5] (fun t wr => ∃ k m : Nat, k ≤ zs.length ∧ t = .int .i64 k ∧ wr = w.drewN m) (fun t _ => zs.length - (intOf t).toNat)
  case atStart => exact ⟨0, 0, Nat.zero_le _, rfl, rfl⟩
  case round =>
    obtain ⟨k, m, hk, rfl, rfl⟩ := hrel
    by_cases hlt : k < zs.length
    · obtain ⟨bd, off, c, rfl, hc, hdr⟩ := h.atH hlt
      obtain ⟨bd2, off2, c2, rfl, hc2, hdr2⟩ := h2.atH hlt
      obtain rfl : c = c2 := by
        have := hdr.out.symm.trans hdr2.out
        exact (List.cons.inj this).1
      have hlt' : (k : Int) < zs.length := by omega
      go_wp2
      go_quiet (fail)
      go_wp2
      go_roundw
      case rel => exact ⟨k + 1, _, by omega, by go_num, rfl⟩
      case measure => simp [intOf]; omega
    · go_wp2
      go_ret
      exact ⟨rfl, drewN_below (Below.refl _ _) _⟩

/-- What ZZStr gives: the text between the quotes, or a fault. -/
theorem zzStr_any {n : Nat} {x : Int} (h : Bs w a zs) (en : n = zs.length) (ex : x = p) (hp : p ≤ zs.length) (hn : zs.length ≤ 1000000000) (hcap : zs.length ≤ cap) :
    Calls Try.prog 21 #[.slice a n cap, .int .i64 x] w fun e w' => Below w.heap.size w w' ∧
      ((∃ (s q : Nat) (a' : Option Addr) (cap' : Nat), p ≤ s ∧ s < q + 1 ∧ q < zs.length ∧ e = .returned (.tuple #[.slice a' (q - s) cap', .int .i64 ((q : Int) + 1), .bool false]) ∧ Bs w' a' ((zs.take q).drop s) ∧
          Hid (Pl.ws (zs.drop p) = 34 :: zs.drop s ∧ Pl.strB (zs.drop s) = some (zs.drop (q + 1)))) ∨
       (e = .returned (.tuple #[.slice none 0 0, .int .i64 (zs.length : Int), .bool true]) ∧ Hid (Pl.str (zs.drop p) = none))) := by
  subst en
  subst ex
  have hs := new_scanner h cap p
  go_enter Try.func21, Try.ntmps21
  go_wp2_with fail
  refine (str_any hs hp hn hcap).mono ?_
  rintro e w' ⟨hg, hr⟩
  rcases hr with ⟨s, q, a', cap', hps, hsq, hq, rfl, hb, hx, hs'⟩ | ⟨rfl, hx, hs'⟩
  · obtain ⟨c0, c1, c2, c3, f1, f2, f3⟩ := hs'.all
    clear hs
    go_wp2
    go_quiet (fail)
    go_wp2
    go_ret3
    exact ⟨drewN_below (new_below hg) _, .inl ⟨s, q, a', cap', hps, hsq, hq, rfl, hb, hx⟩⟩
  · obtain ⟨c0, c1, c2, c3, f1, f2, f3⟩ := hs'.all
    clear hs
    go_wp2
    go_quiet (fail)
    go_wp2
    go_ret3
    exact ⟨drewN_below (new_below hg) _, .inr ⟨rfl, hx⟩⟩

/-- jb1Clone, with its room told. -/
theorem clone2_any {n : Nat} (h : Bs w a zs) (en : n = zs.length) (hn : zs.length ≤ 1000000000) :
    Calls Try.prog 12 #[.slice a n cap] w fun e w' => ∃ a' cap', e = .returned (.slice a' zs.length cap') ∧ zs.length ≤ cap' ∧ Bs w' a' zs ∧ Below w.heap.size w w' := by
  subst en
  obtain ⟨i0, hi, hz0, hz1, hz2⟩ := info_parts Try.info5
  cases a with
  | none =>
    have h0 : zs = [] := by
      rcases Nat.eq_zero_or_pos zs.length with e | e
      · exact List.eq_nil_of_length_eq_zero e
      · obtain ⟨bd, off, e', _⟩ := h 0 e
        cases e'
    subst h0
    have hq := fun W => Lib.run_eql_slice_nil (P := Try.prog) W 22 5 none 0 cap 0 0 Try.underlying22
    go_enter Try.func12, Try.ntmps12
    go_wp2
    go_ret
    exact ⟨none, 0, rfl, Nat.le_refl _, Bs.nil _ _, Below.refl _ _⟩
  | some x =>
    have hq := fun W => Lib.run_eql_slice_nil (P := Try.prog) W 22 5 (some x) zs.length cap 0 0 Try.underlying22
    go_enter Try.func12, Try.ntmps12
    go_wp2_with (at_make; refine wpList_make_full _ rfl _ _ 22 rfl w.heap.size 5 i0 (.int .u8 0) 1 Try.underlying22 hi hz0 hz1 .i64 .i64 _ _ zs.length rfl rfl rfl rfl (by rw [hz2]; omega) (by unfold maxLen; omega) (Nat.le_refl _) ?_; intro w1 hown hgrow)
    have hb : Below w.heap.size w w1 := (Below.refl _ _).grown hgrow (Nat.le_refl _) (fun k e => by cases e)
    have hrow := row_made hown rfl
    clear hown hgrow hq
    go_loopw [4] (fun t wr => ∃ (k : Nat) (ys : List Int), k ≤ zs.length ∧ t = .int .i64 k ∧ Hid (ys.length = zs.length ∧ ys.take k = zs.take k) ∧ Row wr w.heap.size ys ∧ Below w.heap.size w wr) (fun t _ => zs.length - (intOf t).toNat)
    case atStart => exact ⟨0, _, Nat.zero_le _, rfl, ⟨by simp, by simp⟩, hrow, hb⟩
    case round =>
      clear hrow hb
      obtain ⟨k, ys, hk, rfl, hy, hrow, hb⟩ := hrel
      by_cases hlt : k < zs.length
      · obtain ⟨bd, off, c, e, hc, hdr⟩ := (h.belowAll hb).atH hlt
        cases e
        have hcg : wr.cell? ⟨w.heap.size, k, none⟩ = some (.int .u8 (ys.getD k 0)) := hrow.cell (by rw [hy.out.1]; exact hlt)
        have hfg := hrow.free k
        go_wp2
        go_roundw
        case rel => exact ⟨k + 1, ys.set k c, by omega, by go_num, ⟨by simp [hy.out.1], take_snoc hlt hy.out.1 hdr.out hy.out.2⟩, hrow.set k c, hb.setCell (Nat.le_refl _) _⟩
        case measure => simp [intOf]; omega
      · go_wp2
        go_ret
        obtain rfl : ys = zs := by
          have h1 := hy.out.2
          rwa [List.take_of_length_le (by rw [hy.out.1]; omega), List.take_of_length_le (by omega)] at h1
        exact ⟨_, _, rfl, Nat.le_refl _, hrow.bs, hb⟩
end
end Go.Proofs.Qxb6600109a
