import Derived.Test.Qxb6600109aZVal
import Derived.Test.Qxb6600109aValC
namespace Go.Proofs.Qxb6600109a
open Go.RowKit

theorem ws_ws (l : List Int) : Pl.ws (Pl.ws l) = Pl.ws l := by
  cases h : Pl.ws l with
  | nil => rfl
  | cons c s => exact ws_no (ws_stop l c s h)
theorem val_ws (f d : Nat) (l : List Int) : Pl.val f 0 true d l = Pl.val f 0 true d (Pl.ws l) := by
  cases f with
  | zero => simp [Pl.val]
  | succ f =>
    cases h : Pl.ws l with
    | nil =>
      have h2 : Pl.ws ([] : List Int) = [] := rfl
      rw [val0_nil h, val0_nil h2]
    | cons c s =>
      have h2 : Pl.ws (c :: s) = c :: s := by rw [← h]; exact ws_ws l
      rw [val0_cons h, val0_cons h2]

/-- A value that was read: its text v, m bytes from s on. -/
structure VShape (zs : List Int) (F p s m : Nat) (v : List Int) : Prop where
  len : v.length = m
  text : zs.drop s = v ++ zs.drop (s + m)
  space : ∀ j, p ≤ j → j < s → Pl.isWS (zs.getD j 0) = true
  head : ∀ c r, v = c :: r → Pl.isWS c = false
  again : Pl.val F 0 true 0 v = some []

theorem vshape_of {zs : List Int} {F p s q : Nat} (hp : p ≤ s) (hsq : s < q) (hq : q ≤ zs.length) (hws : Hid (Pl.ws (zs.drop p) = zs.drop s)) (hv : Hid (Pl.val F 0 true 0 (zs.drop p) = some (zs.drop q))) :
    ∃ m v, q = s + m ∧ 0 < m ∧ v = (zs.take q).drop s ∧ VShape zs F p s m v := by
  obtain ⟨u, hu, hsp⟩ := ws_split (zs.drop p)
  have hv' := hv.out
  rw [val_ws, hws.out] at hv'
  obtain ⟨v, e, hr⟩ := val_cut _ _ _ _ _ _ hv'
  have hl := congrArg List.length e
  simp at hl
  have hvt : v = (zs.take q).drop s := by
    rw [List.drop_take, e, show q - s = v.length from by omega, List.take_left]
  refine ⟨q - s, v, by omega, by omega, hvt, by omega, by rw [show s + (q - s) = q from by omega]; exact e, ?_, ?_, ?_⟩
  · intro j hj1 hj2
    refine hsp _ ?_
    rw [hws.out] at hu
    have hlu := congrArg List.length hu
    simp at hlu
    have e : zs.getD j 0 = u[j - p]'(by omega) := by
      have h3 := congrArg (fun l => l.getD (j - p) 0) hu
      simp only [List.getD_eq_getElem?_getD, List.getElem?_drop] at h3
      rw [show p + (j - p) = j from by omega, List.getElem?_append_left (by omega), List.getElem?_eq_getElem (show j - p < u.length by omega)] at h3
      simpa [List.getD_eq_getElem?_getD] using h3
    rw [e]
    exact List.getElem_mem _
  · intro c r ev
    refine ws_stop (zs.drop p) c (r ++ zs.drop q) ?_
    rw [hws.out, e, ev]
    rfl
  · have := hr [] (fun _ => like_nil _)
    simpa using this

section
variable {w : World} {a : Option Addr} {cap : Nat} {zs : List Int} {p : Nat}

theorem zzValue_shape {n F : Nat} {x : Int} (h : Bs w a zs) (en : n = zs.length) (ex : x = p) (hp : p ≤ zs.length) (hn : zs.length ≤ 1000000000) (hcap : zs.length ≤ cap) (hby : ∀ c ∈ zs, 0 ≤ c ∧ c ≤ 255) (hF : fuel zs.length ≤ F) :
    Calls Try.prog 30 #[.slice a n cap, .int .i64 x] w fun e w' => Below w.heap.size w w' ∧
      ((∃ (s m : Nat) (v : List Int) (a' : Option Addr) (cap' : Nat), p ≤ s ∧ 0 < m ∧ s + m ≤ zs.length ∧ e = .returned (.tuple #[.slice a' m cap', .int .i64 ((s : Int) + m), .int .i64 0, .bool false]) ∧ Bs w' a' v ∧ VShape zs F p s m v) ∨
       (∃ v dp, e = .returned (.tuple #[v, .int .i64 (zs.length : Int), .int .i64 dp, .bool true]) ∧ Hid (Pl.val F 0 true 0 (zs.drop p) = none))) := by
  refine (zzValue_any h en ex hp hn hcap hby hF).mono ?_
  rintro e w' ⟨hB, hr⟩
  refine ⟨hB, ?_⟩
  rcases hr with ⟨s, q, a', cap', hps, hsq, hq, rfl, hb, hws, hx⟩ | hr
  · obtain ⟨m, v, rfl, hm, hv, hs⟩ := vshape_of hps hsq hq hws hx
    refine .inl ⟨s, m, v, a', cap', hps, hm, hq, ?_, by rw [hv]; exact hb, hs⟩
    rw [show s + m - s = m from by omega, show ((s + m : Nat) : Int) = (s : Int) + m from by omega]
  · exact .inr hr
end

theorem bytes31 (a : Option Addr) (n cap : Nat) (pos : Int) (w : World) (hn : n ≤ 1048576) : Calls Try.prog 31 #[.slice a n cap, .int .i64 pos] w fun e w' => e = .returned (.bool true) ∧ w' = w := by
  have hn' : (n : Int) ≤ 1048576 := by omega
  go_enter Try.func31, Try.ntmps31
  go_wp2
  go_ret
  exact ⟨rfl, rfl⟩
theorem bytes31_no (a : Option Addr) (n cap : Nat) (pos : Int) (w : World) (hn : ¬ n ≤ 1048576) : Calls Try.prog 31 #[.slice a n cap, .int .i64 pos] w fun e w' => e = .returned (.bool false) ∧ w' = w := by
  have hn' : (1048576 : Int) < n := by omega
  go_enter Try.func31, Try.ntmps31
  go_wp2
  go_ret
  exact ⟨rfl, rfl⟩
end Go.Proofs.Qxb6600109a
