import Derived.Test.Qxb6600109aValue
import Derived.Test.Qxb6600109aSmall
namespace Go.Proofs.Qxb6600109a
open Go.RowKit

section
variable {w : World} {a : Option Addr} {cap : Nat} {zs : List Int} {p : Nat}

/-- How much fuel a text of n bytes takes. -/
def fuel (n : Nat) : Nat := 2 * n + 1

/-- What ZZValue gives: the value's text, or a fault. -/
theorem zzValue_any {n F : Nat} {x : Int} (h : Bs w a zs) (en : n = zs.length) (ex : x = p) (hp : p ≤ zs.length) (hn : zs.length ≤ 1000000000) (hcap : zs.length ≤ cap) (hby : ∀ c ∈ zs, 0 ≤ c ∧ c ≤ 255) (hF : fuel zs.length ≤ F) :
    Calls Try.prog 30 #[.slice a n cap, .int .i64 x] w fun e w' => Below w.heap.size w w' ∧
      ((∃ (s q : Nat) (a' : Option Addr) (cap' : Nat), p ≤ s ∧ s < q ∧ q ≤ zs.length ∧ e = .returned (.tuple #[.slice a' (q - s) cap', .int .i64 (q : Int), .int .i64 0, .bool false]) ∧ Bs w' a' ((zs.take q).drop s) ∧
          Hid (Pl.ws (zs.drop p) = zs.drop s) ∧ Hid (Pl.val F 0 true 0 (zs.drop p) = some (zs.drop q))) ∨
       (∃ v dp, e = .returned (.tuple #[v, .int .i64 (zs.length : Int), .int .i64 dp, .bool true]) ∧ Hid (Pl.val F 0 true 0 (zs.drop p) = none))) := by
  subst en
  subst ex
  unfold fuel at hF
  have hs := new_scanner h cap p
  go_enter Try.func30, Try.ntmps30
  go_wp2_with fail
  refine (value_any hn hcap hby F F _ p 0 (Nat.le_refl _) (by omega) hp (by omega) hs).mono ?_
  rintro e w' ⟨hg, hr⟩
  rcases hr with ⟨s, q, a', cap', hps, hsq, hq, rfl, hb, hws, hx, hs'⟩ | ⟨v, dep, rfl, hx, hs'⟩
  · obtain ⟨c0, c1, c2, c3, f1, f2, f3⟩ := hs'.all
    clear hs
    go_wp2
    go_quiet (fail)
    go_wp2
    refine bodyPost_ret (v := .tuple #[.slice a' (q - s) cap', .int .i64 (q : Int), .int .i64 0, .bool false]) (by simp [results, Try.results30, go_sem]) rfl ?_
    exact ⟨drewN_below (new_below hg) _, .inl ⟨s, q, a', cap', hps, hsq, hq, rfl, hb, hws, hx⟩⟩
  · obtain ⟨c0, c1, c2, c3, f1, f2, f3⟩ := hs'.all
    clear hs
    go_wp2
    go_quiet (fail)
    go_wp2
    refine bodyPost_ret (v := .tuple #[v, .int .i64 (zs.length : Int), .int .i64 dep, .bool true]) (by simp [results, Try.results30, go_sem]) rfl ?_
    exact ⟨drewN_below (new_below hg) _, .inr ⟨v, dep, rfl, hx⟩⟩
end
end Go.Proofs.Qxb6600109a
