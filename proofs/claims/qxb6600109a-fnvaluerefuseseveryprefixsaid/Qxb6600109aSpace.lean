import Derived.Test.Qxb6600109aNumber
namespace Go.Proofs.Qxb6600109a
open Go.RowKit

section
variable {w : World} {b : Nat} {a : Option Addr} {cap : Nat} {zs : List Int} {p : Nat} {dep : Int} {flt : Bool}

theorem ws_yes {c : Int} {r : List Int} (h : Pl.isWS c = true) : Pl.ws (c :: r) = Pl.ws r := by simp [Pl.ws, h]
theorem ws_no {c : Int} {r : List Int} (h : Pl.isWS c = false) : Pl.ws (c :: r) = c :: r := by simp [Pl.ws, h]

theorem ws_cases (c : Int) : ((c == 32) = true ∧ Hid (Pl.isWS c = true)) ∨ ((c == 32) = false ∧ (c == 9) = true ∧ Hid (Pl.isWS c = true)) ∨ ((c == 32) = false ∧ (c == 9) = false ∧ (c == 10) = true ∧ Hid (Pl.isWS c = true)) ∨
    ((c == 32) = false ∧ (c == 9) = false ∧ (c == 10) = false ∧ (c == 13) = true ∧ Hid (Pl.isWS c = true)) ∨ ((c == 32) = false ∧ (c == 9) = false ∧ (c == 10) = false ∧ (c == 13) = false ∧ Hid (Pl.isWS c = false)) := by
  unfold Hid Pl.isWS
  cases c == 32 <;> cases c == 9 <;> cases c == 10 <;> cases c == 13 <;> simp

theorem Sc.setPosX (h : Sc w b a cap zs p dep flt) {x : Int} {q : Nat} (hx : x = q) : Sc (w.setCell ⟨b, 1, none⟩ (.int .i64 x)) b a cap zs q dep flt := by
  subst hx
  exact h.setPos q

theorem space_any (h : Sc w b a cap zs p dep flt) (hp : p ≤ zs.length) (hn : zs.length ≤ 1000000000) :
    Calls Try.prog 50 #[.pointer (some ⟨b, 0, none⟩)] w fun e w' => e = .returned (.tuple #[]) ∧ w.grownBy w' (some b) ∧ ∃ q, p ≤ q ∧ q ≤ zs.length ∧ Hid (zs.drop q = Pl.ws (zs.drop p)) ∧ Sc w' b a cap zs q dep flt := by
  go_enter Try.func50, Try.ntmps50
  go_wp2
  go_loopg [] (zs.length - p) (fun g wr => ∃ q, p ≤ q ∧ q ≤ zs.length ∧ g = zs.length - q ∧ Hid (Pl.ws (zs.drop p) = Pl.ws (zs.drop q)) ∧ Sc wr b a cap zs q dep flt ∧ w.grownBy wr (some b))
  case atStart => exact ⟨p, Nat.le_refl _, hp, rfl, rfl, h, grownBy_refl _ _⟩
  case round =>
    obtain ⟨q, hpq, hq, rfl, hw, hs, hg⟩ := hrel
    obtain ⟨c0, c1, c2, c3, f1, f2, f3⟩ := hs.all
    by_cases hlt : q < zs.length
    · obtain ⟨bd, off, c, rfl, hc, hdr⟩ := hs.2.atH hlt
      have hlt' : (q : Int) < zs.length := by omega
      rcases ws_cases c with ⟨t1, e⟩ | ⟨t1, t2, e⟩ | ⟨t1, t2, t3, e⟩ | ⟨t1, t2, t3, t4, e⟩ | ⟨t1, t2, t3, t4, e⟩
      iterate 4
        · go_wp2
          go_quiet (fail)
          go_wp2
          go_quiet (fail)
          go_wp2
          go_roundg (zs.length - (q + 1))
          case measure => omega
          case rel => exact ⟨q + 1, by omega, by omega, rfl, by show _ = _; rw [hw.out, hdr.out, ws_yes e.out], (hs.drewN _).setPosX (by omega), grownBy_trans hg (grownBy_trans (grownBy_drewN _ _ _) (grownBy_setCell _ _ _ _))⟩
      · go_wp2
        go_quiet (fail)
        go_wp2
        go_quiet (fail)
        go_wp2
        refine bodyPost_ret (results_none rfl _ _ _) rfl ?_
        exact ⟨rfl, grownBy_trans hg (grownBy_drewN _ _ _), q, hpq, hq, by show _ = _; rw [hw.out, hdr.out, ws_no e.out], hs.drewN _⟩
    · have hge : ¬ (q : Int) < zs.length := by omega
      go_wp2
      go_quiet (fail)
      go_wp2
      go_end0
      exact ⟨rfl, grownBy_trans hg (grownBy_drewN _ _ _), q, hpq, hq, by show _ = _; rw [hw.out, List.drop_of_length_le (by omega)]; rfl, hs.drewN _⟩
end
end Go.Proofs.Qxb6600109a
