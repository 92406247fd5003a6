import Derived.Test.Qxb6600109aNumber
namespace Go.Proofs.Qxb6600109a
open Go.RowKit

section
variable {w : World} {a : Option Addr} {cap : Nat} {zs : List Int} {p : Nat}

theorem Sc.new (h : Bs w a zs) (cap p : Nat) : Sc (w.alloc (.cells #[.slice a zs.length cap, .int .i64 p, .int .i64 0, .bool false] 45)) w.heap.size a cap zs p 0 false :=
  ⟨heap_alloc_new w _, h.belowAll ((Below.refl _ _).alloc (Nat.le_refl _) _)⟩
theorem below_new {w w' : World} {o : Obj} (h : (w.alloc o).grownBy w' (some w.heap.size)) : Below w.heap.size w w' :=
  ((Below.refl _ _).alloc (Nat.le_refl _) _).grown h (by simp) (fun k e => by cases e; exact Nat.le_refl _)
theorem below_drewN {B : Nat} {a w : World} (h : Below B a w) (n : Nat) : Below B a (w.drewN n) := ⟨h.os, h.tape, h.output, h.size, h.block⟩

theorem zzNumber_any (h : Bs w a zs) (hp : p ≤ zs.length) (hn : zs.length ≤ 1000000000) :
    Calls Try.prog 15 #[.slice a zs.length cap, .int .i64 p] w fun e w' => ∃ (i : Nat) (f : Bool), e = .returned (.tuple #[.int .i64 i, .bool f]) ∧ i ≤ zs.length ∧
      Hid ((Pl.num (zs.drop p) = some (zs.drop i) ∧ f = false) ∨ (Pl.num (zs.drop p) = none ∧ f = true ∧ i = zs.length)) ∧ Below w.heap.size w w' := by
  have hs := Sc.new h cap p
  go_enter Try.func15, Try.ntmps15
  go_wp2_with fail
  refine (number_any hs hp hn).mono ?_
  rintro e w' ⟨rfl, hg, hr⟩
  rcases hr with ⟨i, hi, hq, hs'⟩ | ⟨hq, hs'⟩
  · have Q : Hid (Pl.num (zs.drop p) = some (zs.drop i)) := hq
    obtain ⟨c0, c1, c2, c3, f1, f2, f3⟩ := hs'.all
    clear hs hq
    go_wp2
    go_quiet (fail)
    go_wp2
    go_ret2
    exact ⟨i, false, rfl, hi, .inl ⟨Q.out, rfl⟩, below_drewN (below_new hg) _⟩
  · have Q : Hid (Pl.num (zs.drop p) = none) := hq
    obtain ⟨c0, c1, c2, c3, f1, f2, f3⟩ := hs'.all
    clear hs hq
    go_wp2
    go_quiet (fail)
    go_wp2
    go_ret2
    exact ⟨zs.length, true, rfl, Nat.le_refl _, .inr ⟨Q.out, rfl, rfl⟩, below_drewN (below_new hg) _⟩
end
end Go.Proofs.Qxb6600109a
