import Derived.Test.Qxb6600109aBase
import Derived.Test.Qxb6600109aPlain
import Derived.Deep.QuietTactic
import Derived.BigQuiet
import Derived.Deep.DeepCutAuto
namespace Go.Proofs.Qxb6600109a
open Go.RowKit

section
variable {w : World} {b : Nat} {a : Option Addr} {cap : Nat} {zs : List Int} {p : Nat} {dep : Int} {flt : Bool}

theorem fault_any (h : Sc w b a cap zs p dep flt) :
    Calls Try.prog 40 #[.pointer (some ⟨b, 0, none⟩)] w fun e w' => e = .returned (.tuple #[]) ∧ Sc w' b a cap zs zs.length dep true ∧ w.grownBy w' (some b) := by
  obtain ⟨c0, c1, c2, c3, f1, f2, f3⟩ := h.all
  go_enter Try.func40, Try.ntmps40
  go_wp2
  go_end0
  exact ⟨rfl, (h.setPos _).setFault _, grownBy_trans (grownBy_setCell _ _ _ _) (grownBy_setCell _ _ _ _)⟩

theorem digits_cons_yes {c : Int} {r : List Int} (h : 48 ≤ c) (h' : c ≤ 57) : Pl.digits (c :: r) = Pl.digits r := by
  simp [Pl.digits, Pl.dig, h, h']
theorem digits_cons_no {c : Int} {r : List Int} (h : ¬ (48 ≤ c ∧ c ≤ 57)) : Pl.digits (c :: r) = c :: r := by
  simp only [Pl.digits]
  rw [List.dropWhile_cons_of_neg]
  simpa [Pl.dig] using h

theorem digits_any (h : Sc w b a cap zs p dep flt) (i : Nat) (hi : i ≤ zs.length) (hn : zs.length ≤ 1000000000) :
    Calls Try.prog 39 #[.pointer (some ⟨b, 0, none⟩), .int .i64 i] w fun e w' => ∃ k : Nat, e = .returned (.int .i64 k) ∧ k ≤ zs.length ∧ Pl.digits (zs.drop i) = zs.drop k ∧ w' = w := by
  obtain ⟨c0, c1, c2, c3, f1, f2, f3⟩ := h.all
  go_enter Try.func39, Try.ntmps39
  go_wp2
  go_loop [1] (fun t => ∃ k : Nat, k ≤ zs.length ∧ t = .int .i64 k ∧ Hid (Pl.digits (zs.drop i) = Pl.digits (zs.drop k))) (fun t => zs.length - (intOf t).toNat)
  case atStart => exact ⟨i, hi, rfl, rfl⟩
  case round =>
    obtain ⟨k, hk, rfl, hd⟩ := hrel
    by_cases hlt : k < zs.length
    · obtain ⟨bd, off, c, rfl, hc, hdr0⟩ := h.2.at hlt
      have hdr : Hid (zs.drop k = c :: zs.drop (k + 1)) := hdr0
      clear hdr0
      by_cases hc1 : 48 ≤ c
      · by_cases hc2 : c ≤ 57
        · go_wp2
          go_round
          case rel => exact ⟨k + 1, by omega, by go_num, by show _ = _; rw [hd.out, hdr.out, digits_cons_yes hc1 hc2]⟩
          case measure => simp [intOf]; omega
        · go_wp2
          go_ret
          exact ⟨k, rfl, hk, by rw [hd.out, hdr.out, digits_cons_no (by omega)], rfl⟩
      · go_wp2
        go_ret
        exact ⟨k, rfl, hk, by rw [hd.out, hdr.out, digits_cons_no (by omega)], rfl⟩
    · go_wp2
      go_ret
      exact ⟨k, rfl, hk, by rw [hd.out, List.drop_of_length_le (by omega)]; rfl, rfl⟩
end
end Go.Proofs.Qxb6600109a
