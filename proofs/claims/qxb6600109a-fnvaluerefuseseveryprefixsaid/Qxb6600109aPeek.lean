import Derived.Test.Qxb6600109aSpace
namespace Go.Proofs.Qxb6600109a
open Go.RowKit

section
variable {w : World} {b : Nat} {a : Option Addr} {cap : Nat} {zs : List Int} {p : Nat} {dep : Int} {flt : Bool}

/-- What 'peek' leaves: a byte that stands next, or a fault. -/
def Peeked (e : Ending) (w' : World) (b : Nat) (a : Option Addr) (cap : Nat) (zs : List Int) (p : Nat) (dep : Int) (flt : Bool) : Prop :=
  (∃ (q : Nat) (c : Int), p ≤ q ∧ q < zs.length ∧ e = .returned (.int .u8 c) ∧ Hid (Pl.ws (zs.drop p) = c :: zs.drop (q + 1)) ∧ Hid (zs.drop q = c :: zs.drop (q + 1)) ∧ Sc w' b a cap zs q dep flt) ∨
  (e = .returned (.int .u8 0) ∧ Hid (Pl.ws (zs.drop p) = []) ∧ Sc w' b a cap zs zs.length dep true)

theorem peek_any (h : Sc w b a cap zs p dep flt) (hp : p ≤ zs.length) (hn : zs.length ≤ 1000000000) :
    Calls Try.prog 41 #[.pointer (some ⟨b, 0, none⟩)] w fun e w' => w.grownBy w' (some b) ∧ Peeked e w' b a cap zs p dep flt := by
  go_enter Try.func41, Try.ntmps41
  go_wp2_with fail
  refine (space_any h hp hn).mono ?_
  rintro e w1 ⟨rfl, hg, q, hpq, hq, hw, hs⟩
  obtain ⟨c0, c1, c2, c3, f1, f2, f3⟩ := hs.all
  by_cases hlt : q < zs.length
  · obtain ⟨bd, off, c, rfl, hc, hdr⟩ := hs.2.atH hlt
    have hlt' : (q : Int) < zs.length := by omega
    have hne : ((q : Int) == zs.length) = false := by simp; omega
    go_wp2
    go_quiet (fail)
    go_wp2
    go_quiet (fail)
    go_wp2
    go_ret
    exact ⟨grownBy_trans hg (grownBy_trans (grownBy_drewN _ _ _) (grownBy_drewN _ _ _)), .inl ⟨q, c, hpq, hlt, rfl, by show _ = _; rw [← hw.out, hdr.out], hdr, (hs.drewN _).drewN _⟩⟩
  · obtain rfl : q = zs.length := by omega
    go_wp2
    go_quiet (fail)
    go_wp2_with (go_at_call 40; refine (fault_any (hs.drewN _)).mono ?_; rintro e' w2 ⟨rfl, hs2, hg2⟩)
    go_ret
    exact ⟨grownBy_trans hg (grownBy_trans (grownBy_drewN _ _ _) hg2), .inr ⟨rfl, by show _ = _; rw [← hw.out]; simp, hs2⟩⟩

theorem expect_any (x : Int) (h : Sc w b a cap zs p dep flt) (hp : p ≤ zs.length) (hn : zs.length ≤ 1000000000) (hx : ((0 : Int) == x) = false) :
    Calls Try.prog 48 #[.pointer (some ⟨b, 0, none⟩), .int .u8 x] w fun e w' => e = .returned (.tuple #[]) ∧ Read w w' b a cap zs dep flt (Pl.expect x (zs.drop p)) := by
  go_enter Try.func48, Try.ntmps48
  go_wp2_with fail
  refine (peek_any h hp hn).mono ?_
  rintro e w1 ⟨hg, hpk⟩
  rcases hpk with ⟨q, c, hpq, hq, rfl, hw, hdr, hs⟩ | ⟨rfl, hw, hs⟩
  · rcases beq_cases c x with ⟨t, e⟩ | ⟨t, e⟩
    · obtain ⟨c0, c1, c2, c3, f1, f2, f3⟩ := hs.all
      have t' : (c != x) = false := by simp [bne, t]
      go_wp2
      go_end0
      exact ⟨rfl, grownBy_trans hg (grownBy_setCell _ _ _ _), .inl ⟨q + 1, by omega, by simp [Pl.expect, hw.out, e.out], hs.setPosX (by omega)⟩⟩
    · have t' : (c != x) = true := by simp [bne, t]
      go_wp2_with (go_at_call 40; refine (fault_any hs).mono ?_; rintro e' w2 ⟨rfl, hs2, hg2⟩)
      refine bodyPost_ret (results_none rfl _ _ _) rfl ?_
      exact ⟨rfl, grownBy_trans hg hg2, .inr ⟨by have := e.out; simp [Pl.expect, hw.out, this], hs2⟩⟩
  · have t' : ((0 : Int) != x) = true := by simp [bne, hx]
    go_wp2_with (go_at_call 40; refine (fault_any hs).mono ?_; rintro e' w2 ⟨rfl, hs2, hg2⟩)
    refine bodyPost_ret (results_none rfl _ _ _) rfl ?_
    exact ⟨rfl, grownBy_trans hg hg2, .inr ⟨by simp [Pl.expect, hw.out], hs2⟩⟩

theorem open_any (h : Sc w b a cap zs p dep flt) (hp : p < zs.length) (hn : zs.length ≤ 1000000000) (hd0 : 0 ≤ dep) (hd : dep ≤ 10000) :
    Calls Try.prog 46 #[.pointer (some ⟨b, 0, none⟩)] w fun e w' => e = .returned (.tuple #[]) ∧ w.grownBy w' (some b) ∧
      ((dep < 10000 ∧ Sc w' b a cap zs (p + 1) (dep + 1) flt) ∨ (10000 ≤ dep ∧ Sc w' b a cap zs zs.length (dep + 1) true)) := by
  obtain ⟨c0, c1, c2, c3, f1, f2, f3⟩ := h.all
  have h2 : Sc ((w.setCell ⟨b, 1, none⟩ (.int .i64 ((p : Int) + 1))).setCell ⟨b, 2, none⟩ (.int .i64 (dep + 1))) b a cap zs (p + 1) (dep + 1) flt := (h.setPosX (by omega)).setDepth (dep + 1)
  by_cases hlt : dep < 10000
  · go_enter Try.func46, Try.ntmps46
    go_wp2
    go_end0
    exact ⟨rfl, grownBy_trans (grownBy_setCell _ _ _ _) (grownBy_setCell _ _ _ _), .inl ⟨hlt, h2⟩⟩
  · go_enter Try.func46, Try.ntmps46
    go_wp2_with fail
    refine (fault_any h2).mono ?_
    rintro e w2 ⟨rfl, hs2, hg2⟩
    go_wp2
    go_end0
    exact ⟨rfl, grownBy_trans (grownBy_trans (grownBy_setCell _ _ _ _) (grownBy_setCell _ _ _ _)) hg2, .inr ⟨by omega, hs2⟩⟩

/-- What 'more' leaves: the end was read; or there is more (the comma, where one was due, read); or a fault. -/
def Mored (e : Ending) (w' : World) (b : Nat) (a : Option Addr) (cap : Nat) (zs : List Int) (p : Nat) (dep : Int) (flt : Bool) (x : Int) (first : Bool) : Prop :=
  (∃ q, q < zs.length ∧ e = .returned (.bool false) ∧ Hid (Pl.ws (zs.drop p) = x :: zs.drop (q + 1)) ∧ Sc w' b a cap zs (q + 1) (dep - 1) flt) ∨
  (∃ (q : Nat) (c : Int) (r : List Int), p ≤ q ∧ q ≤ zs.length ∧ e = .returned (.bool true) ∧ Hid (Pl.ws (zs.drop p) = c :: r ∧ ¬ c = x) ∧ Hid (Pl.comma first (c :: r) = some (zs.drop q)) ∧ Sc w' b a cap zs q dep flt) ∨
  (e = .returned (.bool false) ∧ Hid (Pl.ws (zs.drop p) = [] ∨ ∃ c r, Pl.ws (zs.drop p) = c :: r ∧ ¬ c = x ∧ Pl.comma first (c :: r) = none) ∧ Sc w' b a cap zs zs.length dep true)

theorem ws_stop (l : List Int) : ∀ c r, Pl.ws l = c :: r → Pl.isWS c = false := by
  induction l with
  | nil => intro c r h; simp [Pl.ws] at h
  | cons x t ih =>
    intro c r h
    rcases hx : Pl.isWS x with _ | _
    · rw [ws_no hx] at h
      cases h
      exact hx
    · rw [ws_yes hx] at h
      exact ih c r h

theorem ws_len (l : List Int) : (Pl.ws l).length ≤ l.length := by
  induction l with
  | nil => simp [Pl.ws]
  | cons x t ih =>
    rcases hx : Pl.isWS x with _ | _
    · rw [ws_no hx]; exact Nat.le_refl _
    · rw [ws_yes hx]; simp; omega
theorem expect_len {x : Int} {l r : List Int} (h : Pl.expect x l = some r) : r.length < l.length := by
  have hl := ws_len l
  unfold Pl.expect at h
  cases hw : Pl.ws l with
  | nil => simp [hw] at h
  | cons c t =>
    rw [hw] at h hl
    simp at h hl
    obtain ⟨_, rfl⟩ := h
    omega

theorem more_any (x : Int) (k : Nat) (h : Sc w b a cap zs p dep false) (hp : p ≤ zs.length) (hn : zs.length ≤ 1000000000) (hx : ((0 : Int) == x) = false) (hd : -1000000 ≤ dep) (hd' : dep ≤ 1000000) :
    Calls Try.prog 47 #[.pointer (some ⟨b, 0, none⟩), .int .u8 x, .int .i64 k] w fun e w' => w.grownBy w' (some b) ∧ Mored e w' b a cap zs p dep false x (k == 0) := by
  go_enter Try.func47, Try.ntmps47
  go_wp2_with fail
  refine (peek_any h hp hn).mono ?_
  rintro e w1 ⟨hg, hpk⟩
  rcases hpk with ⟨q, c, hpq, hq, rfl, hw, hdr, hs⟩ | ⟨rfl, hw, hs⟩
  · rcases beq_cases c x with ⟨t, e⟩ | ⟨t, e⟩
    · obtain ⟨c0, c1, c2, c3, f1, f2, f3⟩ := hs.all
      go_wp2
      go_ret
      refine ⟨grownBy_trans hg (grownBy_trans (grownBy_setCell _ _ _ _) (grownBy_setCell _ _ _ _)), .inl ⟨q, hq, rfl, by show _ = _; rw [hw.out, e.out], (hs.setPosX (by omega)).setDepth _⟩⟩
    · by_cases hk : 0 < k
      · go_wp2_with fail
        refine (expect_any 44 hs (by omega) hn rfl).mono ?_
        rintro e2 w2 ⟨rfl, hg2, hr⟩
        have hk0 : (k == 0) = false := by simp; omega
        rcases hr with ⟨q2, hq2, hex, hs2⟩ | ⟨hex, hs2⟩
        · have HX : Hid (Pl.expect 44 (zs.drop q) = some (zs.drop q2)) := hex
          clear hex
          obtain ⟨c0, c1, c2, c3, f1, f2, f3⟩ := hs2.all
          go_wp2
          go_ret
          exact ⟨grownBy_trans hg hg2, .inr (.inl ⟨q2, c, _, by have := expect_len HX.out; simp at this; omega, hq2, rfl, ⟨hw.out, e.out⟩, by show _ = _; rw [hk0, ← hdr.out]; exact HX.out, hs2⟩)⟩
        · have HX : Hid (Pl.expect 44 (zs.drop q) = none) := hex
          clear hex
          obtain ⟨c0, c1, c2, c3, f1, f2, f3⟩ := hs2.all
          go_wp2
          go_ret
          exact ⟨grownBy_trans hg hg2, .inr (.inr ⟨rfl, .inr ⟨c, _, hw.out, e.out, by rw [hk0, ← hdr.out]; exact HX.out⟩, hs2⟩)⟩
      · obtain ⟨c0, c1, c2, c3, f1, f2, f3⟩ := hs.all
        obtain rfl : k = 0 := by omega
        go_wp2
        go_ret
        exact ⟨hg, .inr (.inl ⟨q, c, _, hpq, by omega, rfl, ⟨hw.out, e.out⟩, by show _ = _; rw [hdr.out]; rfl, hs⟩)⟩
  · by_cases hk : 0 < k
    · go_wp2_with fail
      refine (expect_any 44 hs (Nat.le_refl _) hn rfl).mono ?_
      rintro e2 w2 ⟨rfl, hg2, hr⟩
      rcases hr with ⟨q2, hq2, hex, hs2⟩ | ⟨hex, hs2⟩
      · simp [Pl.expect, Pl.ws] at hex
      · clear hex
        obtain ⟨c0, c1, c2, c3, f1, f2, f3⟩ := hs2.all
        go_wp2
        go_ret
        exact ⟨grownBy_trans hg hg2, .inr (.inr ⟨rfl, .inl hw.out, hs2⟩)⟩
    · obtain ⟨c0, c1, c2, c3, f1, f2, f3⟩ := hs.all
      obtain rfl : k = 0 := by omega
      go_wp2
      go_ret
      exact ⟨hg, .inr (.inr ⟨rfl, .inl hw.out, hs⟩)⟩
end
end Go.Proofs.Qxb6600109a
