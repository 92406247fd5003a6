/-
  What the walks say of memory: 'Bs' (a slice's bytes), 'Sc' (a scanner in a block of its own), and how each goes on from world to world.
-/
import Derived.Test.Qxb6600109aProg
import Derived.WalkKit
import Derived.WalkSmall
namespace Go.Proofs.Qxb6600109a
open Go.RowKit

/-- The slice that begins at 'a' holds the bytes 'zs'. -/
def Bs (w : World) (a : Option Addr) (zs : List Int) : Prop :=
  ∀ i, i < zs.length → ∃ bd off, a = some ⟨bd, off, none⟩ ∧ w.cell? ⟨bd, off + i, none⟩ = some (.int .u8 (zs.getD i 0))

theorem drop_at {zs : List Int} {i : Nat} (h : i < zs.length) : zs.drop i = zs.getD i 0 :: zs.drop (i + 1) := by
  rw [List.drop_eq_getElem_cons h, List.getD_eq_getElem?_getD, List.getElem?_eq_getElem h, Option.getD_some]

theorem Bs.at {w : World} {a : Option Addr} {zs : List Int} (h : Bs w a zs) {i : Nat} (hi : i < zs.length) :
    ∃ bd off c, a = some ⟨bd, off, none⟩ ∧ w.cell? ⟨bd, off + i, none⟩ = some (.int .u8 c) ∧ zs.drop i = c :: zs.drop (i + 1) := by
  obtain ⟨bd, off, ha, hc⟩ := h i hi
  exact ⟨bd, off, _, ha, hc, drop_at hi⟩

theorem Bs.all {w : World} {a : Option Addr} {zs : List Int} (h : Bs w a zs) (h0 : 0 < zs.length) :
    ∃ bd off, a = some ⟨bd, off, none⟩ ∧ ∀ i, i < zs.length → w.cell? ⟨bd, off + i, none⟩ = some (.int .u8 (zs.getD i 0)) := by
  obtain ⟨bd, off, rfl, _⟩ := h 0 h0
  refine ⟨bd, off, rfl, fun i hi => ?_⟩
  obtain ⟨bd', off', e, hc⟩ := h i hi
  cases e
  exact hc

theorem Bs.mk {w : World} {bd off : Nat} {zs : List Int} (h : ∀ i, i < zs.length → w.cell? ⟨bd, off + i, none⟩ = some (.int .u8 (zs.getD i 0))) : Bs w (some ⟨bd, off, none⟩) zs :=
  fun i hi => ⟨bd, off, rfl, h i hi⟩

theorem Bs.nil (w : World) (a : Option Addr) : Bs w a [] := fun i hi => absurd hi (by simp)

/-- Bytes stay where every block that is not 'b' stays, if block 'b' holds none of them. -/
theorem Bs.grown {w w' : World} {a : Option Addr} {zs : List Int} {row : Option Nat} (h : Bs w a zs) (hg : w.grownBy w' row)
    (hne : ∀ bd off, a = some ⟨bd, off, none⟩ → 0 < zs.length → some bd ≠ row) : Bs w' a zs := by
  intro i hi
  obtain ⟨bd, off, ha, hc⟩ := h i hi
  exact ⟨bd, off, ha, hg.cell hc (hne bd off ha (by omega))⟩

theorem Bs.below {w w' : World} {a : Option Addr} {zs : List Int} {B : Nat} (h : Bs w a zs) (hb : Below B w w')
    (hlt : ∀ bd off, a = some ⟨bd, off, none⟩ → 0 < zs.length → bd < B) : Bs w' a zs := by
  intro i hi
  obtain ⟨bd, off, ha, hc⟩ := h i hi
  exact ⟨bd, off, ha, (hb.cell (p := ⟨bd, off + i, none⟩) (hlt bd off ha (by omega))).trans hc⟩

theorem Bs.lt {w : World} {a : Option Addr} {zs : List Int} (h : Bs w a zs) : ∀ bd off, a = some ⟨bd, off, none⟩ → 0 < zs.length → bd < w.heap.size := by
  intro bd off ha h0
  obtain ⟨bd', off', e, hc⟩ := h 0 h0
  rw [ha] at e
  cases e
  exact World.block_lt_of_cell? w _ hc

theorem Bs.belowAll {w w' : World} {a : Option Addr} {zs : List Int} (h : Bs w a zs) (hb : Below w.heap.size w w') : Bs w' a zs := h.below hb h.lt

theorem Bs.drew {w : World} {a : Option Addr} {zs : List Int} (h : Bs w a zs) : Bs w.drew a zs := h

/-- A cut of the bytes. -/
theorem Bs.cut {w : World} {bd off : Nat} {zs : List Int} (h : Bs w (some ⟨bd, off, none⟩) zs) (i j : Nat) (hj : j ≤ zs.length) : Bs w (some ⟨bd, off + i, none⟩) ((zs.take j).drop i) := by
  intro k hk
  simp only [List.length_drop, List.length_take] at hk
  obtain ⟨bd', off', e, hc⟩ := h (i + k) (by omega)
  cases e
  refine ⟨bd, off + i, rfl, ?_⟩
  have e1 : off + i + k = off + (i + k) := by omega
  rw [e1, hc]
  simp only [List.getD_eq_getElem?_getD, List.getElem?_drop, List.getElem?_take]
  rw [if_pos (by omega)]

theorem grownBy_refl (w : World) (row : Option Nat) : w.grownBy w row := ⟨rfl, rfl, rfl, Nat.le_refl _, fun _ _ _ => rfl⟩
theorem grownBy_trans {a b c : World} {row : Option Nat} (h : a.grownBy b row) (k : b.grownBy c row) : a.grownBy c row :=
  ⟨k.os.trans h.os, k.tape.trans h.tape, k.output.trans h.output, Nat.le_trans h.size k.size, fun i hi hne => (k.block i (Nat.lt_of_lt_of_le hi h.size) hne).trans (h.block i hi hne)⟩
theorem grownBy_drew (w : World) (row : Option Nat) : w.grownBy w.drew row := ⟨rfl, rfl, rfl, Nat.le_refl _, fun _ _ _ => rfl⟩
theorem grownBy_drewN (w : World) (n : Nat) (row : Option Nat) : w.grownBy (w.drewN n) row := ⟨rfl, rfl, rfl, Nat.le_refl _, fun _ _ _ => rfl⟩
theorem grownBy_setCell (w : World) (b o : Nat) (v : Value) : w.grownBy (w.setCell ⟨b, o, none⟩ v) (some b) :=
  ⟨rfl, rfl, rfl, by simp [World.setCell], fun k _ hk => Below.heap_setCell _ _ _ _ (fun e => hk (by rw [e]))⟩

/-- A SCANNER in block b: its four fields; and the bytes that it reads. -/
def Sc (w : World) (b : Nat) (a : Option Addr) (cap : Nat) (zs : List Int) (p : Nat) (dep : Int) (flt : Bool) : Prop :=
  w.heap[b]? = some (.cells #[.slice a zs.length cap, .int .i64 p, .int .i64 dep, .bool flt] 45 (0, 0)) ∧ Bs w a zs

section
variable {w : World} {b : Nat} {a : Option Addr} {cap : Nat} {zs : List Int} {p : Nat} {dep : Int} {flt : Bool}

theorem Sc.data (h : Sc w b a cap zs p dep flt) : w.cell? ⟨b, 0, none⟩ = some (.slice a zs.length cap) := by rw [cell_of_row w b 0 _ _ _ h.1]; rfl
theorem Sc.pos (h : Sc w b a cap zs p dep flt) : w.cell? ⟨b, 1, none⟩ = some (.int .i64 p) := by rw [cell_of_row w b 1 _ _ _ h.1]; rfl
theorem Sc.depth (h : Sc w b a cap zs p dep flt) : w.cell? ⟨b, 2, none⟩ = some (.int .i64 dep) := by rw [cell_of_row w b 2 _ _ _ h.1]; rfl
theorem Sc.fault (h : Sc w b a cap zs p dep flt) : w.cell? ⟨b, 3, none⟩ = some (.bool flt) := by rw [cell_of_row w b 3 _ _ _ h.1]; rfl
theorem Sc.free (h : Sc w b a cap zs p dep flt) (o : Nat) : w.frozen? ⟨b, o, none⟩ = false := by simp [World.frozen?, h.1]

theorem Sc.all (h : Sc w b a cap zs p dep flt) : w.cell? ⟨b, 0, none⟩ = some (.slice a zs.length cap) ∧ w.cell? ⟨b, 1, none⟩ = some (.int .i64 p) ∧ w.cell? ⟨b, 2, none⟩ = some (.int .i64 dep) ∧ w.cell? ⟨b, 3, none⟩ = some (.bool flt) ∧
    w.frozen? ⟨b, 1, none⟩ = false ∧ w.frozen? ⟨b, 2, none⟩ = false ∧ w.frozen? ⟨b, 3, none⟩ = false := ⟨h.data, h.pos, h.depth, h.fault, h.free 1, h.free 2, h.free 3⟩

theorem Sc.apart (h : Sc w b a cap zs p dep flt) : ∀ bd off, a = some ⟨bd, off, none⟩ → 0 < zs.length → some bd ≠ some b := by
  intro bd off ha h0 e
  cases e
  obtain ⟨bd', off', e', hc⟩ := h.2 0 h0
  rw [ha] at e'
  cases e'
  rw [cell_of_row w b _ _ _ _ h.1] at hc
  match off, hc with
  | 0, hc => simp at hc
  | 1, hc => simp at hc
  | 2, hc => simp at hc
  | 3, hc => simp at hc
  | k + 4, hc => simp at hc

theorem Sc.lt (h : Sc w b a cap zs p dep flt) : b < w.heap.size := lt_of_block h.1

theorem heap_setCell_at {w : World} {b o : Nat} {c : Array Value} {t : TypeId} {v : Value} (h : w.heap[b]? = some (.cells c t (0, 0))) : (w.setCell ⟨b, o, none⟩ v).heap[b]? = some (.cells (c.setIfInBounds o v) t (0, 0)) := by
  have hlt := lt_of_block h
  have h' : w.heap[b] = .cells c t (0, 0) := by simpa [Array.getElem?_eq_getElem hlt] using h
  show (w.heap.modify b _)[b]? = _
  rw [Array.getElem?_eq_getElem (by simpa using hlt), Array.getElem_modify_self, h']
  rfl

theorem Sc.setPos (h : Sc w b a cap zs p dep flt) (q : Nat) : Sc (w.setCell ⟨b, 1, none⟩ (.int .i64 q)) b a cap zs q dep flt :=
  ⟨by rw [heap_setCell_at h.1]; rfl, h.2.grown (grownBy_setCell w b 1 _) h.apart⟩
theorem Sc.setDepth (h : Sc w b a cap zs p dep flt) (d : Int) : Sc (w.setCell ⟨b, 2, none⟩ (.int .i64 d)) b a cap zs p d flt :=
  ⟨by rw [heap_setCell_at h.1]; rfl, h.2.grown (grownBy_setCell w b 2 _) h.apart⟩
theorem Sc.setFault (h : Sc w b a cap zs p dep flt) (f : Bool) : Sc (w.setCell ⟨b, 3, none⟩ (.bool f)) b a cap zs p dep f :=
  ⟨by rw [heap_setCell_at h.1]; rfl, h.2.grown (grownBy_setCell w b 3 _) h.apart⟩
theorem Sc.drew (h : Sc w b a cap zs p dep flt) : Sc w.drew b a cap zs p dep flt := h
theorem Sc.drewN (h : Sc w b a cap zs p dep flt) (n : Nat) : Sc (w.drewN n) b a cap zs p dep flt := h
end

end Go.Proofs.Qxb6600109a
