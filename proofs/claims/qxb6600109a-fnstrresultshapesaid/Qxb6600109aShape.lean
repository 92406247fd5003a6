import Derived.Test.Qxb6600109aSmall
import Derived.Test.Qxb6600109aStrP
namespace Go.Proofs.Qxb6600109a
open Go.RowKit

/-- A string that was read: its opening quote at o, the text v between the quotes, m bytes. -/
structure Shape (zs : List Int) (p o m : Nat) (v : List Int) : Prop where
  len : v.length = m
  openq : zs.drop o = 34 :: zs.drop (o + 1)
  text : zs.drop (o + 1) = v ++ 34 :: zs.drop (o + m + 2)
  space : ∀ j, p ≤ j → j < o → Pl.isWS (zs.getD j 0) = true
  ctl : ∀ c ∈ v, 32 ≤ c
  again : ∀ r', Pl.strB (v ++ 34 :: r') = some r'

theorem shape_of {zs : List Int} {p s q : Nat} (hp : p ≤ zs.length) (hsq : s < q + 1) (hq : q < zs.length) (hx : Hid (Pl.ws (zs.drop p) = 34 :: zs.drop s ∧ Pl.strB (zs.drop s) = some (zs.drop (q + 1)))) :
    ∃ o m v, s = o + 1 ∧ q = o + 1 + m ∧ p ≤ o ∧ v = (zs.take q).drop s ∧ Shape zs p o m v := by
  obtain ⟨h1, h2⟩ := hx.out
  obtain ⟨u, hu, hsp⟩ := ws_split (zs.drop p)
  rw [h1] at hu
  have hl := congrArg List.length hu
  simp at hl
  obtain ⟨v, hv, hg, hr⟩ := strB_split _ _ _ (Nat.le_refl _) h2
  have hl2 := congrArg List.length hv
  simp at hl2
  obtain ⟨o, rfl⟩ : ∃ o, s = o + 1 := ⟨s - 1, by omega⟩
  have hvl : v.length = q - (o + 1) := by omega
  have hdo : zs.drop o = 34 :: zs.drop (o + 1) := by
    have := congrArg (List.drop (o - p)) hu
    rw [List.drop_drop, show p + (o - p) = o from by omega, List.drop_left' (by omega)] at this
    exact this
  refine ⟨o, q - (o + 1), v, rfl, by omega, by omega, ?_, hvl, hdo, ?_, ?_, hg, hr⟩
  · rw [List.drop_take, hv, ← hvl, List.take_left]
  · rw [hv, show o + (q - (o + 1)) + 2 = q + 1 from by omega]
  · intro j hj1 hj2
    refine hsp _ ?_
    have e : zs.getD j 0 = u[j - p]'(by omega) := by
      have h3 := congrArg (fun l => l.getD (j - p) 0) hu
      simp only [List.getD_eq_getElem?_getD, List.getElem?_drop] at h3
      rw [show p + (j - p) = j from by omega, List.getElem?_append_left (by omega), List.getElem?_eq_getElem (show j - p < u.length by omega)] at h3
      simpa [List.getD_eq_getElem?_getD] using h3
    rw [e]
    exact List.getElem_mem _

section
variable {w : World} {a : Option Addr} {cap : Nat} {zs : List Int} {p : Nat}

theorem zzStr_shape {n : Nat} {x : Int} (h : Bs w a zs) (en : n = zs.length) (ex : x = p) (hp : p ≤ zs.length) (hn : zs.length ≤ 1000000000) (hcap : zs.length ≤ cap) :
    Calls Try.prog 21 #[.slice a n cap, .int .i64 x] w fun e w' => Below w.heap.size w w' ∧
      ((∃ (o m : Nat) (v : List Int) (a' : Option Addr) (cap' : Nat), p ≤ o ∧ o + m + 2 ≤ zs.length ∧ e = .returned (.tuple #[.slice a' m cap', .int .i64 ((o : Int) + m + 2), .bool false]) ∧ Bs w' a' v ∧ Shape zs p o m v) ∨
       (e = .returned (.tuple #[.slice none 0 0, .int .i64 (zs.length : Int), .bool true]) ∧ Hid (Pl.str (zs.drop p) = none))) := by
  refine (zzStr_any h en ex hp hn hcap).mono ?_
  rintro e w' ⟨hB, hr⟩
  refine ⟨hB, ?_⟩
  rcases hr with ⟨s, q, a', cap', hps, hsq, hq, rfl, hb, hx⟩ | hr
  · obtain ⟨o, m, v, rfl, rfl, hpo, hv, hs⟩ := shape_of hp hsq hq hx
    refine .inl ⟨o, m, v, a', cap', hpo, by omega, ?_, by rw [hv]; exact hb, hs⟩
    rw [show o + 1 + m - (o + 1) = m from by omega, show ((o + 1 + m : Nat) : Int) + 1 = (o : Int) + m + 2 from by omega]
  · exact .inr hr
end

theorem bytes23 (a : Option Addr) (n cap : Nat) (pos : Int) (w : World) (hn : n ≤ 1048576) : Calls Try.prog 23 #[.slice a n cap, .int .i64 pos] w fun e w' => e = .returned (.bool true) ∧ w' = w := by
  have hn' : (n : Int) ≤ 1048576 := by omega
  go_enter Try.func23, Try.ntmps23
  go_wp2
  go_ret
  exact ⟨rfl, rfl⟩
theorem bytes23_no (a : Option Addr) (n cap : Nat) (pos : Int) (w : World) (hn : ¬ n ≤ 1048576) : Calls Try.prog 23 #[.slice a n cap, .int .i64 pos] w fun e w' => e = .returned (.bool false) ∧ w' = w := by
  have hn' : (1048576 : Int) < n := by omega
  go_enter Try.func23, Try.ntmps23
  go_wp2
  go_ret
  exact ⟨rfl, rfl⟩
end Go.Proofs.Qxb6600109a
