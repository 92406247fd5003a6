/-
  A row of bytes that the call itself made ('Row'), written byte by byte; jb1Clone.
-/
import Derived.Test.Qxb6600109aBase
import Derived.Test.Qxb6600109aPlain
import Derived.Deep.QuietTactic
import Derived.BigQuiet
import Derived.Lib.SliceRun
import Derived.Deep.DeepCutAuto
namespace Go.Proofs.Qxb6600109a
open Go.RowKit

theorem Try.info5 : (Try.prog.info? 5).map (fun i => (i.zero, i.size, i.bytes)) = some (some (.int .u8 0), 1, 1) := by kernel_rfl

def byt (z : Int) : Value := .int .u8 z

/-- Block g holds the bytes ys, and may be written. -/
def Row (w : World) (g : Nat) (ys : List Int) : Prop := w.heap[g]? = some (.cells (ys.map byt).toArray 5 (0, 0))

theorem Row.cell {w : World} {g : Nat} {ys : List Int} (h : Row w g ys) {k : Nat} (hk : k < ys.length) : w.cell? ⟨g, k, none⟩ = some (.int .u8 (ys.getD k 0)) := by
  rw [cell_of_row w g k _ _ _ h]
  simp [List.getElem?_eq_getElem hk, byt]
theorem Row.free {w : World} {g : Nat} {ys : List Int} (h : Row w g ys) (k : Nat) : w.frozen? ⟨g, k, none⟩ = false := by
  unfold Row at h
  simp [World.frozen?, h]
theorem Row.set {w : World} {g : Nat} {ys : List Int} (h : Row w g ys) (k : Nat) (c : Int) : Row (w.setCell ⟨g, k, none⟩ (.int .u8 c)) g (ys.set k c) := by
  unfold Row
  rw [heap_setCell_at h]
  congr 2
  apply Array.ext'
  simp [List.map_set, byt]
theorem Row.lt {w : World} {g : Nat} {ys : List Int} (h : Row w g ys) : g < w.heap.size := lt_of_block h
theorem Row.below {w w' : World} {g B : Nat} {ys : List Int} (h : Row w g ys) (hb : Below B w w') (hg : g < B) : Row w' g ys := by
  unfold Row
  rw [hb.block g hg]
  exact h
theorem Row.bs {w : World} {g : Nat} {ys : List Int} (h : Row w g ys) : Bs w (some ⟨g, 0, none⟩) ys := Bs.mk fun i hi => by
  have := h.cell hi
  simpa using this
theorem Row.drew {w : World} {g : Nat} {ys : List Int} (h : Row w g ys) : Row w.drew g ys := h
theorem Row.drewN {w : World} {g : Nat} {ys : List Int} (h : Row w g ys) (n : Nat) : Row (w.drewN n) g ys := h

theorem row_made {w : World} {base g n : Nat} {e : Nat} (h : w.ownsRow base 5 1 (.slice (some ⟨g, 0, none⟩) n n) n (madeCells (Value.int .u8 0).cells e).toList) (he : e = n * 1) : Row w g (List.replicate n 0) := by
  subst he
  rcases h.2 with ⟨h1, _⟩ | ⟨g', cap, cur, hv, _, hh, _, _, hs, ht⟩
  · cases h1
  · cases hv
    unfold Row
    rw [hh]
    congr 2
    apply Array.ext'
    have e1 : (Value.int IntKind.u8 0).cells = #[Value.int .u8 0] := rfl
    rw [e1, toList_madeCells_one, List.take_of_length_le (by simp; omega)] at ht
    rw [ht]
    simp [byt]

section
variable {w : World} {a : Option Addr} {cap : Nat} {zs : List Int}

theorem take_snoc {zs ys : List Int} {k : Nat} {c : Int} (hk : k < zs.length) (hy : ys.length = zs.length) (hd : zs.drop k = c :: zs.drop (k + 1)) (ht : ys.take k = zs.take k) : (ys.set k c).take (k + 1) = zs.take (k + 1) := by
  have hc : zs[k] = c := by
    have := List.drop_eq_getElem_cons hk
    rw [hd] at this
    exact (List.cons.inj this).1.symm
  rw [List.take_succ_eq_append_getElem (by simpa using by omega), List.take_succ_eq_append_getElem hk, List.take_set_of_le (by omega), ht, List.getElem_set_self, hc]

theorem clone_any (h : Bs w a zs) (hn : zs.length ≤ 1000000000) :
    Calls Try.prog 12 #[.slice a zs.length cap] w fun e w' => ∃ a' cap', e = .returned (.slice a' zs.length cap') ∧ Bs w' a' zs ∧ Below w.heap.size w w' := by
  obtain ⟨i0, hi, hz0, hz1, hz2⟩ := info_parts Try.info5
  cases a with
  | none =>
    have h0 : zs = [] := by
      rcases Nat.eq_zero_or_pos zs.length with e | e
      · exact List.eq_nil_of_length_eq_zero e
      · obtain ⟨bd, off, e', _⟩ := h 0 e
        cases e'
    subst h0
    have hq := fun W => Lib.run_eql_slice_nil (P := Try.prog) W 22 5 none 0 cap 0 0 Try.underlying22
    go_enter Try.func12, Try.ntmps12
    go_wp2
    go_ret
    exact ⟨none, 0, rfl, Bs.nil _ _, Below.refl _ _⟩
  | some x =>
    have hq := fun W => Lib.run_eql_slice_nil (P := Try.prog) W 22 5 (some x) zs.length cap 0 0 Try.underlying22
    go_enter Try.func12, Try.ntmps12
    go_wp2_with (at_make; refine wpList_make_full _ rfl _ _ 22 rfl w.heap.size 5 i0 (.int .u8 0) 1 Try.underlying22 hi hz0 hz1 .i64 .i64 _ _ zs.length rfl rfl rfl rfl (by rw [hz2]; omega) (by unfold maxLen; omega) (Nat.le_refl _) ?_; intro w1 hown hgrow)
    have hb : Below w.heap.size w w1 := (Below.refl _ _).grown hgrow (Nat.le_refl _) (fun k e => by cases e)
    have hrow := row_made hown rfl
    clear hown hgrow hq
    go_loopw [4] (fun t wr => ∃ (k : Nat) (ys : List Int), k ≤ zs.length ∧ t = .int .i64 k ∧ Hid (ys.length = zs.length ∧ ys.take k = zs.take k) ∧ Row wr w.heap.size ys ∧ Below w.heap.size w wr) (fun t _ => zs.length - (intOf t).toNat)
    case atStart => exact ⟨0, _, Nat.zero_le _, rfl, ⟨by simp, by simp⟩, hrow, hb⟩
    case round =>
      clear hrow hb
      obtain ⟨k, ys, hk, rfl, hy, hrow, hb⟩ := hrel
      by_cases hlt : k < zs.length
      · obtain ⟨bd, off, c, e, hc, hdr⟩ := (h.belowAll hb).at hlt
        cases e
        have hdr : Hid (zs.drop k = c :: zs.drop (k + 1)) := hdr
        have hcg : wr.cell? ⟨w.heap.size, k, none⟩ = some (.int .u8 (ys.getD k 0)) := hrow.cell (by rw [hy.out.1]; exact hlt)
        have hfg := hrow.free k
        go_wp2
        go_roundw
        case rel => exact ⟨k + 1, ys.set k c, by omega, by go_num, ⟨by simp [hy.out.1], take_snoc hlt hy.out.1 hdr.out hy.out.2⟩, hrow.set k c, hb.setCell (Nat.le_refl _) _⟩
        case measure => simp [intOf]; omega
      · go_wp2
        go_ret
        obtain rfl : ys = zs := by
          have h1 := hy.out.2
          rwa [List.take_of_length_le (by rw [hy.out.1]; omega), List.take_of_length_le (by omega)] at h1
        exact ⟨_, _, rfl, hrow.bs, hb⟩
end
end Go.Proofs.Qxb6600109a
