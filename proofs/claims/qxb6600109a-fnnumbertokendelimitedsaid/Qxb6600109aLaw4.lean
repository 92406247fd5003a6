import Derived.Test.Qxb6600109aNumL
import Derived.Test.Qxb6600109aCut
namespace Go.Proofs.Qxb6600109a
open Go.RowKit

theorem mod8_cases (d : Int) : d % 8 = 0 ∨ d % 8 = 1 ∨ d % 8 = 2 ∨ d % 8 = 3 ∨ d % 8 = 4 ∨ d % 8 = 5 ∨ d % 8 = 6 ∨ d % 8 = 7 := by omega

theorem delim_any (d : Int) (w : World) (h0 : 0 ≤ d) (h1 : d ≤ 255) : Calls Try.prog 17 #[.int .u8 d] w fun e w' => e = .returned (.int .u8 (Pl.delim d)) ∧ w' = w := by
  rcases mod8_cases d with h | h | h | h | h | h | h | h
  all_goals
    go_enter Try.func17, Try.ntmps17
    go_wp2
    go_ret
    exact ⟨ret_int (by simp [Pl.delim, h]), rfl⟩

theorem bytes16 (a : Option Addr) (n cap : Nat) (pos d : Int) (w : World) (hn : n ≤ 1048576) : Calls Try.prog 16 #[.slice a n cap, .int .i64 pos, .int .u8 d] w fun e w' => e = .returned (.bool true) ∧ w' = w := by
  have hn' : (n : Int) ≤ 1048576 := by omega
  go_enter Try.func16, Try.ntmps16
  go_wp2
  go_ret
  exact ⟨rfl, rfl⟩
theorem bytes16_no (a : Option Addr) (n cap : Nat) (pos d : Int) (w : World) (hn : ¬ n ≤ 1048576) : Calls Try.prog 16 #[.slice a n cap, .int .i64 pos, .int .u8 d] w fun e w' => e = .returned (.bool false) ∧ w' = w := by
  have hn' : (1048576 : Int) < n := by omega
  go_enter Try.func16, Try.ntmps16
  go_wp2
  go_ret
  exact ⟨rfl, rfl⟩

/-- What a number that was read says of its token. -/
theorem token {zs : List Int} {p i : Nat} (hp : p ≤ zs.length) (hi : i ≤ zs.length) (h : Pl.num (zs.drop p) = some (zs.drop i)) :
    ∃ m v, i = p + m ∧ 0 < m ∧ Hid (v = (zs.drop p).take m ∧ v.length = m ∧ (∀ d, Pl.num (v ++ [Pl.delim d]) = some [Pl.delim d]) ∧ Pl.num v = some []) := by
  obtain ⟨v, hv, hne⟩ := Pl.num_suffix h
  have hl := congrArg List.length hv
  simp at hl
  have hvl : 0 < v.length := by cases v with | nil => exact absurd rfl hne | cons _ _ => simp
  rw [hv] at h
  refine ⟨v.length, v, by omega, hvl, ?_, rfl, fun d => Pl.num_cut h (fun c t e => ?_), ?_⟩
  · rw [hv, List.take_left]
  · cases e
    exact .inr fun st ha => Pl.delim_stops d st ha
  · have := Pl.num_cut (r' := []) h (by simp)
    simpa using this

theorem tok_step {zs ys : List Int} {p m k : Nat} {c : Int} (hlt : k < m) (hi : p + m ≤ zs.length) (hy : Hid (ys.length = m + 1 ∧ ys.take k = (zs.drop p).take k)) (hdr : Hid (zs.drop (p + k) = c :: zs.drop (p + k + 1))) :
    Hid ((ys.set k c).length = m + 1 ∧ (ys.set k c).take (k + 1) = (zs.drop p).take (k + 1)) := by
  obtain ⟨h1, h2⟩ := hy.out
  refine ⟨by simp [h1], ?_⟩
  have hl : k < (zs.drop p).length := by simp; omega
  have hc : (zs.drop p)[k] = c := by
    have := List.drop_eq_getElem_cons (i := p + k) (l := zs) (by omega)
    rw [hdr.out] at this
    simp [(List.cons.inj this).1]
  rw [List.take_succ_eq_append_getElem (by simpa using by omega), List.take_succ_eq_append_getElem hl, List.take_set_of_le (by omega), h2, List.getElem_set_self, hc]

theorem tok_end {zs ys v : List Int} {p m : Nat} {x : Int} (hy : Hid (ys.length = m + 1 ∧ ys.take m = (zs.drop p).take m)) (hv : v = (zs.drop p).take m) : ys.set m x = v ++ [x] := by
  obtain ⟨h1, h2⟩ := hy.out
  have h3 : (ys.set m x).take (m + 1) = v ++ [x] := by
    rw [List.take_succ_eq_append_getElem (by simpa using by omega), List.take_set_of_le (by omega), h2, List.getElem_set_self, hv]
  rwa [List.take_of_length_le (by simp; omega)] at h3

theorem zzNumberX {w : World} {a : Option Addr} {n cap p : Nat} {x : Int} {zs : List Int} (h : Bs w a zs) (hz : n = zs.length) (hx : x = p) (hp : p ≤ zs.length) (hn : zs.length ≤ 1000000000) :
    Calls Try.prog 15 #[.slice a n cap, .int .i64 x] w fun e w' => ∃ (i : Nat) (f : Bool), e = .returned (.tuple #[.int .i64 i, .bool f]) ∧ i ≤ zs.length ∧
      Hid ((Pl.num (zs.drop p) = some (zs.drop i) ∧ f = false) ∨ (Pl.num (zs.drop p) = none ∧ f = true ∧ i = zs.length)) ∧ Below w.heap.size w w' := by
  subst hz
  subst hx
  exact zzNumber_any h hp hn

theorem tok_read {zs r : List Int} {i k : Nat} {f : Bool} (hn : Pl.num zs = some r) (hr : r.length + k = zs.length) (hi : i ≤ zs.length)
    (hq : Hid ((Pl.num (zs.drop 0) = some (zs.drop i) ∧ f = false) ∨ (Pl.num (zs.drop 0) = none ∧ f = true ∧ i = zs.length))) : i = k ∧ f = false := by
  rcases hq.out with ⟨h1, h2⟩ | ⟨h1, h2, h3⟩
  · simp [hn] at h1
    have := congrArg List.length h1
    simp at this
    exact ⟨by omega, h2⟩
  · simp [hn] at h1

theorem tok_read1 {zs v : List Int} {p i k : Nat} {f : Bool} {d : Int} (hv : Hid (v = (zs.drop p).take k ∧ v.length = k ∧ (∀ d, Pl.num (v ++ [Pl.delim d]) = some [Pl.delim d]) ∧ Pl.num v = some [])) (hi : i ≤ (v ++ [Pl.delim d]).length)
    (hq : Hid ((Pl.num ((v ++ [Pl.delim d]).drop 0) = some ((v ++ [Pl.delim d]).drop i) ∧ f = false) ∨ (Pl.num ((v ++ [Pl.delim d]).drop 0) = none ∧ f = true ∧ i = (v ++ [Pl.delim d]).length))) : i = k ∧ f = false :=
  tok_read (hv.out.2.2.1 d) (by simp [hv.out.2.1]; omega) hi hq
theorem tok_read2 {zs v : List Int} {p i k : Nat} {f : Bool} (hv : Hid (v = (zs.drop p).take k ∧ v.length = k ∧ (∀ d, Pl.num (v ++ [Pl.delim d]) = some [Pl.delim d]) ∧ Pl.num v = some [])) (hi : i ≤ v.length)
    (hq : Hid ((Pl.num (v.drop 0) = some (v.drop i) ∧ f = false) ∨ (Pl.num (v.drop 0) = none ∧ f = true ∧ i = v.length))) : i = k ∧ f = false :=
  tok_read hv.out.2.2.2 (by simp [hv.out.2.1]) hi hq

theorem Bs.head {w : World} {a : Option Addr} {v u : List Int} (h : Bs w a (v ++ u)) : Bs w a v := by
  intro i hi
  obtain ⟨bd, off, e, hc⟩ := h i (by simp; omega)
  refine ⟨bd, off, e, ?_⟩
  rw [hc]
  simp only [List.getD_eq_getElem?_getD]
  rw [List.getElem?_append_left hi]

section
variable {w : World} {a : Option Addr} {cap : Nat} {zs : List Int} {pos d : Int}

theorem law4 (h : Bs w a zs) (hd0 : 0 ≤ d) (hd1 : d ≤ 255) : Calls Try.prog 4 #[.slice a zs.length cap, .int .i64 pos, .int .u8 d] w fun e w' => e = .returned (.bool true) ∧ Below w.heap.size w w' := by
  by_cases hn : zs.length ≤ 1048576
  · have hn' : (zs.length : Int) ≤ 1048576 := by omega
    by_cases h0 : pos < 0
    · go_enter Try.func4, Try.ntmps4
      go_wp2_with (go_at_call 16; refine (bytes16 _ _ _ _ _ _ hn).mono ?_; rintro e w' ⟨rfl, rfl⟩)
      go_ret
      exact ⟨rfl, Below.refl _ _⟩
    · by_cases h1 : (zs.length : Int) < pos
      · go_enter Try.func4, Try.ntmps4
        go_wp2_with (go_at_call 16; refine (bytes16 _ _ _ _ _ _ hn).mono ?_; rintro e w' ⟨rfl, rfl⟩)
        go_ret
        exact ⟨rfl, Below.refl _ _⟩
      · obtain ⟨p, rfl⟩ := Int.eq_ofNat_of_zero_le (Int.not_lt.1 h0)
        have hp : p ≤ zs.length := by omega
        go_enter Try.func4, Try.ntmps4
        go_wp2_with (first | (go_at_call 16; refine (bytes16 _ _ _ _ _ _ hn).mono ?_; rintro e w' ⟨rfl, rfl⟩) | (go_at_call 12; refine (clone_any h (by omega)).mono ?_; rintro e w1 ⟨a', cap', rfl, hb1, hB1⟩))
        refine (zzNumber_any hb1 hp (by omega)).mono ?_
        rintro e w2 ⟨i, f, rfl, hi, hq, hB2⟩
        rcases hq.out with ⟨q1, rfl⟩ | ⟨q1, rfl, rfl⟩
        · clear hq
          obtain ⟨m, v, rfl, hm, hv⟩ := token hp hi q1
          clear q1
          have hb2 := hb1.belowAll hB2
          have hB := hB1.trans (hB2.mono hB1.size)
          clear hB1 hB2 hb1
          obtain ⟨i0, hi0, hz0, hz1, hz2⟩ := info_parts Try.info5
          go_wp2_with (at_make; refine wpList_make_full _ rfl _ _ 22 rfl w2.heap.size 5 i0 (.int .u8 0) 1 Try.underlying22 hi0 hz0 hz1 .i64 .i64 _ _ (m + 1) rfl rfl (by omega) (by omega) (by rw [hz2]; omega) (by unfold maxLen; omega) (Nat.le_refl _) ?_; intro w3 hown hgrow)
          simp only [show ((p : Int) + (m : Int) - (p : Int)) = (m : Int) from by omega]
          have hB3 : Below w2.heap.size w2 w3 := (Below.refl _ _).grown hgrow (Nat.le_refl _) (fun k e => by cases e)
          have hrow := row_made hown rfl
          clear hown hgrow
          go_loopw [11] (fun t wr => ∃ (k : Nat) (ys : List Int), k ≤ m ∧ t = .int .i64 k ∧ Hid (ys.length = m + 1 ∧ ys.take k = (zs.drop p).take k) ∧ Row wr w2.heap.size ys ∧ Below w2.heap.size w2 wr) (fun t _ => m - (intOf t).toNat)
          case atStart => exact ⟨0, _, Nat.zero_le _, rfl, ⟨by simp, by simp⟩, hrow, hB3⟩
          case round =>
            clear hrow hB3
            obtain ⟨k, ys, hk, rfl, hy, hrow, hB3⟩ := hrel
            by_cases hlt : k < m
            · obtain ⟨bd, off, c, rfl, hc, hdr⟩ := (hb2.belowAll hB3).atH (i := p + k) (by omega)
              have hcg : wr.cell? ⟨w2.heap.size, k, none⟩ = some (.int .u8 (ys.getD k 0)) := hrow.cell (by rw [hy.out.1]; omega)
              have hfg := hrow.free k
              go_wp2
              go_roundw
              case rel => exact ⟨k + 1, ys.set k c, by omega, by go_num, tok_step hlt hi hy hdr, hrow.set k c, hB3.setCell (Nat.le_refl _) _⟩
              case measure => simp [intOf]; omega
            · obtain rfl : k = m := by omega
              have hcg : wr.cell? ⟨w2.heap.size, k, none⟩ = some (.int .u8 (ys.getD k 0)) := hrow.cell (by rw [hy.out.1]; omega)
              have hfg := hrow.free k
              go_wp2_with (go_at_call 17; refine (delim_any _ _ hd0 hd1).mono ?_; rintro e w' ⟨rfl, rfl⟩)
              have hB4 := hB3.setCell (p := ⟨w2.heap.size, k, none⟩) (Nat.le_refl _) (.int .u8 (Pl.delim d))
              have hrow4 := hrow.set k (Pl.delim d)
              rw [tok_end hy hv.out.1] at hrow4
              refine (zzNumberX (zs := v ++ [Pl.delim d]) (p := 0) hrow4.bs (by simp [hv.out.2.1]) rfl (Nat.zero_le _) (by simp [hv.out.2.1]; omega)).mono ?_
              rintro e w5 ⟨i, f, rfl, hi5, hq5, hB5⟩
              obtain ⟨rfl, rfl⟩ := tok_read1 hv hi5 hq5
              go_wp2_with fail
              refine (zzNumberX (zs := v) (p := 0) (hrow4.bs.belowAll hB5).head hv.out.2.1.symm rfl (Nat.zero_le _) (by rw [hv.out.2.1]; omega)).mono ?_
              rintro e w6 ⟨i6, f, rfl, hi6, hq6, hB6⟩
              obtain ⟨rfl, rfl⟩ := tok_read2 hv hi6 hq6
              go_wp2
              go_ret
              exact ⟨rfl, hB.trans ((hB4.trans ((hB5.trans (hB6.mono hB5.size)).mono hB4.size)).mono hB.size)⟩
        · clear hq
          go_wp2
          go_ret
          exact ⟨rfl, hB1.trans (hB2.mono hB1.size)⟩
  · have hn' : (1048576 : Int) < zs.length := by omega
    go_enter Try.func4, Try.ntmps4
    go_wp2_with (go_at_call 16; refine (bytes16_no _ _ _ _ _ _ hn).mono ?_; rintro e w' ⟨rfl, rfl⟩)
    go_ret
    exact ⟨rfl, Below.refl _ _⟩
end
end Go.Proofs.Qxb6600109a
