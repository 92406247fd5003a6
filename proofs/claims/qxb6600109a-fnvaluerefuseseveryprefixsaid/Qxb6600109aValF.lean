import Derived.Test.Qxb6600109aLiteral
import Derived.Test.Qxb6600109aStr
import Derived.Test.Qxb6600109aValP
namespace Go.Proofs.Qxb6600109a
open Go.RowKit

section
variable {w : World} {b : Nat} {a : Option Addr} {cap : Nat} {zs : List Int} {p : Nat} {dep : Int} {flt : Bool}

/-- 'more' where the scanner has faulted. -/
theorem more_flt (x : Int) (k : Nat) (h : Sc w b a cap zs zs.length dep true) (hn : zs.length ≤ 1000000000) (hx : ((0 : Int) == x) = false) :
    Calls Try.prog 47 #[.pointer (some ⟨b, 0, none⟩), .int .u8 x, .int .i64 k] w fun e w' => e = .returned (.bool false) ∧ w.grownBy w' (some b) ∧ Sc w' b a cap zs zs.length dep true := by
  go_enter Try.func47, Try.ntmps47
  go_wp2_with fail
  refine (peek_any h (Nat.le_refl _) hn).mono ?_
  rintro e w1 ⟨hg, hpk⟩
  rcases hpk with ⟨q, c, hpq, hq, rfl, hw, hdr, hs⟩ | ⟨rfl, hw, hs⟩
  · omega
  · by_cases hk : 0 < k
    · go_wp2_with fail
      refine (expect_any 44 hs (Nat.le_refl _) hn rfl).mono ?_
      rintro e2 w2 ⟨rfl, hg2, hr⟩
      rcases hr with ⟨q2, hq2, hex, hs2⟩ | ⟨hex, hs2⟩
      · simp [Pl.expect, Pl.ws] at hex
      · clear hex
        obtain ⟨c0, c1, c2, c3, f1, f2, f3⟩ := hs2.all
        go_wp2
        go_ret
        exact ⟨rfl, grownBy_trans hg hg2, hs2⟩
    · obtain ⟨c0, c1, c2, c3, f1, f2, f3⟩ := hs.all
      obtain rfl : k = 0 := by omega
      go_wp2
      go_ret
      exact ⟨rfl, hg, hs⟩

/-- 'value' where the scanner has faulted. -/
theorem value_flt (h : Sc w b a cap zs zs.length dep true) (hn : zs.length ≤ 1000000000) (hcap : zs.length ≤ cap) (hby : ∀ c ∈ zs, 0 ≤ c ∧ c ≤ 255) :
    Calls Try.prog 38 #[.pointer (some ⟨b, 0, none⟩)] w fun e w' => (∃ v, e = .returned v) ∧ w.grownBy w' (some b) ∧ Sc w' b a cap zs zs.length dep true := by
  go_enter Try.func38, Try.ntmps38
  go_wp2_with fail
  refine (peek_any h (Nat.le_refl _) hn).mono ?_
  rintro e w1 ⟨hg, hpk⟩
  rcases hpk with ⟨q, c, hpq, hq, rfl, hw, hdr, hs⟩ | ⟨rfl, hw, hs⟩
  · omega
  · obtain ⟨c0, c1, c2, c3, f1, f2, f3⟩ := hs.all
    go_wp2_with fail
    refine (literal_any hs (Nat.le_refl _) hn hcap hby).mono ?_
    rintro e w2 ⟨rfl, hg2, hr⟩
    rcases hr with ⟨q2, hq2, hex, hs2⟩ | ⟨hex, hs2⟩
    · simp [Pl.lit] at hex
    · clear hex
      obtain ⟨c0, c1, c2, c3, f1, f2, f3⟩ := hs2.all
      have hsl := fun W => run_sl W a zs.length cap (zs.length : Int) (zs.length : Int) zs.length zs.length rfl rfl (Nat.le_refl _) hcap
      go_wp2
      go_quiet (fail)
      go_wp2
      go_ret
      exact ⟨⟨_, rfl⟩, grownBy_trans hg (grownBy_trans hg2 (grownBy_drewN _ _ _)), hs2.drewN _⟩
end
end Go.Proofs.Qxb6600109a
