import Derived.Test.Qxb6600109aEscape
namespace Go.Proofs.Qxb6600109a
open Go.RowKit

theorem strB_cons (c : Int) (r : List Int) : Pl.strB (c :: r) =
    if c = 34 then some r
    else if c = 92 then
      match r with
      | [] => none
      | e :: r1 =>
        if Pl.escc e then Pl.strB r1
        else if e = 117 then
          match r1 with
          | a :: b :: c :: d :: r2 => if Pl.hex a && Pl.hex b && Pl.hex c && Pl.hex d then Pl.strB r2 else none
          | _ => none
        else none
    else if c < 32 then none
    else Pl.strB r := by
  rw [Pl.strB.eq_def]
  rfl
theorem strB_nil : Pl.strB [] = none := rfl
theorem strB_quote (r : List Int) : Pl.strB (34 :: r) = some r := by rw [strB_cons]; rfl
theorem strB_ctl {c : Int} {r : List Int} (h1 : ¬ c = 34) (h2 : ¬ c = 92) (h : c < 32) : Pl.strB (c :: r) = none := by rw [strB_cons, if_neg h1, if_neg h2, if_pos h]
theorem strB_go {c : Int} {r : List Int} (h1 : ¬ c = 34) (h2 : ¬ c = 92) (h : ¬ c < 32) : Pl.strB (c :: r) = Pl.strB r := by rw [strB_cons, if_neg h1, if_neg h2, if_neg h]
theorem strB_bs (d : Int) (t : List Int) : Pl.strB (92 :: d :: t) =
    if Pl.escc d then Pl.strB t
    else if d = 117 then
      match t with
      | a :: b :: c :: d :: r2 => if Pl.hex a && Pl.hex b && Pl.hex c && Pl.hex d then Pl.strB r2 else none
      | _ => none
    else none := by
  rw [strB_cons, if_neg (by decide), if_pos rfl]
theorem strB_bad {r : List Int} (h : Pl.esc r = false) : Pl.strB (92 :: r) = none := by
  cases r with
  | nil => rw [strB_cons, if_neg (by decide), if_pos rfl]
  | cons d t =>
    simp [Pl.esc] at h
    rw [strB_bs, h.1]
    by_cases hd : d = 117
    · have h2 := h.2 hd
      simp only [hd, if_true]
      match t, h2 with
      | [], _ => rfl
      | [_], _ => rfl
      | [_, _], _ => rfl
      | [_, _, _], _ => rfl
      | x :: y :: z :: u :: _, h2 =>
        have h3 : (Pl.hex x && Pl.hex y && Pl.hex z && Pl.hex u) = false := h2
        simp [h3]
    · simp [hd]
theorem strB_one {d : Int} {r : List Int} (h : Pl.esc (d :: r) = true) (hd : ¬ d = 117) : Pl.strB (92 :: d :: r) = Pl.strB r := by
  simp [Pl.esc, hd] at h
  rw [strB_bs, if_pos h]
theorem strB_u {r : List Int} (h : Pl.esc (117 :: r) = true) : 4 ≤ r.length ∧ Pl.strB (92 :: 117 :: r) = Pl.strB (r.drop 4) := by
  have h2 : Pl.hex4 r = true := by simpa [Pl.esc, Pl.escc] using h
  match r, h2 with
  | x :: y :: z :: u :: t, h2 =>
    have h3 : (Pl.hex x && Pl.hex y && Pl.hex z && Pl.hex u) = true := h2
    refine ⟨by simp, ?_⟩
    rw [strB_bs, if_neg (by decide), if_pos rfl]
    simp [h3]

section
variable {w : World} {b : Nat} {a : Option Addr} {cap : Nat} {zs : List Int} {p : Nat} {dep : Int} {flt : Bool}

/-- What 'str' leaves: the text between the quotes, or a fault. -/
def Strd (e : Ending) (w' : World) (b : Nat) (a : Option Addr) (cap : Nat) (zs : List Int) (p : Nat) (dep : Int) (flt : Bool) : Prop :=
  (∃ (s q : Nat) (a' : Option Addr) (cap' : Nat), p ≤ s ∧ s < q + 1 ∧ q < zs.length ∧ e = .returned (.slice a' (q - s) cap') ∧ Bs w' a' ((zs.take q).drop s) ∧
      Hid (Pl.ws (zs.drop p) = 34 :: zs.drop s ∧ Pl.strB (zs.drop s) = some (zs.drop (q + 1))) ∧ Sc w' b a cap zs (q + 1) dep flt) ∨
  (e = .returned (.slice none 0 0) ∧ Hid (Pl.str (zs.drop p) = none) ∧ Sc w' b a cap zs zs.length dep true)

set_option maxHeartbeats 1000000 in
theorem str_any (h : Sc w b a cap zs p dep flt) (hp : p ≤ zs.length) (hn : zs.length ≤ 1000000000) (hcap : zs.length ≤ cap) :
    Calls Try.prog 36 #[.pointer (some ⟨b, 0, none⟩)] w fun e w' => w.grownBy w' (some b) ∧ Strd e w' b a cap zs p dep flt := by
  go_enter Try.func36, Try.ntmps36
  go_wp2_with fail
  refine (peek_any h hp hn).mono ?_
  rintro e w1 ⟨hg, hpk⟩
  rcases hpk with ⟨q0, c, hpq, hq, rfl, hw, hdr, hs⟩ | ⟨rfl, hw, hs⟩
  · rcases beq_cases c 34 with ⟨t, e⟩ | ⟨t, e⟩
    · obtain ⟨c0, c1, c2, c3, f1, f2, f3⟩ := hs.all
      have t' : (c != 34) = false := by simp [bne, t]
      have hw0 : Hid (Pl.ws (zs.drop p) = 34 :: zs.drop (q0 + 1)) := by show _ = _; rw [hw.out, e.out]
      go_wp2
      go_loop [4] (fun t => ∃ i : Nat, q0 + 1 ≤ i ∧ i ≤ zs.length ∧ t = .int .i64 i ∧ Hid (Pl.strB (zs.drop (q0 + 1)) = Pl.strB (zs.drop i))) (fun t => zs.length - (intOf t).toNat)
      case atStart => exact ⟨q0 + 1, by omega, by omega, by go_num, rfl⟩
      case round =>
        obtain ⟨i, hi0, hi, rfl, hst⟩ := hrel
        by_cases hlt : i < zs.length
        · obtain ⟨bd, off, d, rfl, hc, hdi⟩ := hs.2.atH hlt
          rcases beq_cases d 34 with ⟨t1, e1⟩ | ⟨t1, e1⟩
          · go_wp2
            go_ret
            have hs3 : Sc (w1.setCell ⟨b, 1, none⟩ (.int .i64 ((i : Int) + 1))) b (some ⟨bd, off, none⟩) cap zs (i + 1) dep flt := hs.setPosX (by omega)
            exact ⟨grownBy_trans hg (grownBy_setCell _ _ _ _), .inl ⟨q0 + 1, i, some ⟨bd, off + (q0 + 1), none⟩, cap - (q0 + 1), by omega, by omega, hlt, rfl, hs3.2.cut (q0 + 1) i hi, ⟨hw0.out, by rw [hst.out, hdi.out, e1.out, strB_quote]⟩, hs3⟩⟩
          · rcases beq_cases d 92 with ⟨t2, e2⟩ | ⟨t2, e2⟩
            · have hbs : Hid (Pl.strB (zs.drop i) = Pl.strB (92 :: zs.drop (i + 1))) := by show _ = _; rw [hdi.out, e2.out]
              rcases hes : Pl.esc (zs.drop (i + 1)) with _ | _
              · have hno : Hid (Pl.esc (zs.drop (i + 1)) = false) := hes
                clear hes
                go_wp2_with (first | (go_at_call 42; refine (escape_any (i + 1) _ (by omega) hs (by omega) hn).mono ?_; rw [hno.out]; rintro e' w2 ⟨rfl, rfl⟩) | (go_at_call 40; refine (fault_any hs).mono ?_; rintro e' w2 ⟨rfl, hs2, hg2⟩))
                go_ret
                exact ⟨grownBy_trans hg hg2, .inr ⟨rfl, by simp [Hid, Pl.str, hw0.out, hst.out, hbs.out, strB_bad hno.out], hs2⟩⟩
              · have hlt2 : i + 1 < zs.length := by
                  rcases Nat.lt_or_ge (i + 1) zs.length with g | g
                  · exact g
                  · rw [List.drop_of_length_le g] at hes; cases hes
                have hyes : Hid (Pl.esc (zs.drop (i + 1)) = true) := hes
                clear hes
                obtain ⟨bd', off', d2, ea, hc2, hdj⟩ := hs.2.atH hlt2
                cases ea
                have hc2 : w1.cell? ⟨bd, off + (i + 1), none⟩ = some (.int .u8 d2) := hc2
                rcases beq_cases d2 117 with ⟨t3, e3⟩ | ⟨t3, e3⟩
                · obtain ⟨hu1, hu2⟩ := strB_u (r := zs.drop (i + 2)) (by have := hyes.out; rw [hdj.out, e3.out] at this; exact this)
                  have hu : Hid (Pl.strB (zs.drop i) = Pl.strB (zs.drop (i + 6))) := by
                    show _ = _
                    rw [hbs.out, hdj.out, e3.out, hu2]
                    simp
                  simp at hu1
                  clear hu2
                  go_wp2_with (go_at_call 42; refine (escape_any (i + 1) _ (by omega) hs (by omega) hn).mono ?_; rw [hyes.out]; rintro e' w2 ⟨rfl, rfl⟩)
                  go_round
                  case rel => exact ⟨i + 6, by omega, by omega, by go_num, by show _ = _; rw [hst.out, hu.out]⟩
                  case measure => simp [intOf]; omega
                · have ho : Hid (Pl.strB (zs.drop i) = Pl.strB (zs.drop (i + 2))) := by
                    have := hyes.out
                    rw [hdj.out] at this
                    show _ = _
                    rw [hbs.out, hdj.out, strB_one this e3.out]
                  go_wp2_with (go_at_call 42; refine (escape_any (i + 1) _ (by omega) hs (by omega) hn).mono ?_; rw [hyes.out]; rintro e' w2 ⟨rfl, rfl⟩)
                  go_round
                  case rel => exact ⟨i + 2, by omega, by omega, by go_num, by show _ = _; rw [hst.out, ho.out]⟩
                  case measure => simp [intOf]; omega
            · by_cases hcl : d < 32
              · go_wp2_with (go_at_call 40; refine (fault_any hs).mono ?_; rintro e' w2 ⟨rfl, hs2, hg2⟩)
                go_ret
                exact ⟨grownBy_trans hg hg2, .inr ⟨rfl, by simp [Hid, Pl.str, hw0.out, hst.out, hdi.out, strB_ctl e1.out e2.out hcl], hs2⟩⟩
              · go_wp2
                go_round
                case rel => exact ⟨i + 1, by omega, by omega, by go_num, by show _ = _; rw [hst.out, hdi.out, strB_go e1.out e2.out (by omega)]⟩
                case measure => simp [intOf]; omega
        · go_wp2_with (go_at_call 40; refine (fault_any hs).mono ?_; rintro e' w2 ⟨rfl, hs2, hg2⟩)
          go_ret
          exact ⟨grownBy_trans hg hg2, .inr ⟨rfl, by simp [Hid, Pl.str, hw0.out, hst.out, List.drop_of_length_le (show zs.length ≤ i by omega), strB_nil], hs2⟩⟩
    · have t' : (c != 34) = true := by simp [bne, t]
      go_wp2_with (go_at_call 40; refine (fault_any hs).mono ?_; rintro e' w2 ⟨rfl, hs2, hg2⟩)
      go_ret
      exact ⟨grownBy_trans hg hg2, .inr ⟨rfl, by have := e.out; simp [Hid, Pl.str, hw.out, this], hs2⟩⟩
  · go_wp2_with (go_at_call 40; refine (fault_any hs).mono ?_; rintro e' w2 ⟨rfl, hs2, hg2⟩)
    go_ret
    exact ⟨grownBy_trans hg hg2, .inr ⟨rfl, by simp [Hid, Pl.str, hw.out], hs2⟩⟩
end
end Go.Proofs.Qxb6600109a
