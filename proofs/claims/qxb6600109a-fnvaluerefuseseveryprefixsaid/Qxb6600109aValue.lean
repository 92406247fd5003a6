import Derived.Test.Qxb6600109aValF
namespace Go.Proofs.Qxb6600109a
open Go.RowKit

/-- Where 'value' leaves the scanner: read, or faulted. -/
def Vst (w : World) (b : Nat) (a : Option Addr) (cap : Nat) (zs : List Int) (s : Nat) (d : Nat) (V : Option (List Int)) : Prop :=
  (∃ q, s < q ∧ q ≤ zs.length ∧ Hid (V = some (zs.drop q)) ∧ Sc w b a cap zs q d false) ∨ (Hid (V = none) ∧ ∃ dep, Sc w b a cap zs zs.length dep true)

/-- What 'value' hands back. -/
def Vald (e : Ending) (w' : World) (b : Nat) (a : Option Addr) (cap : Nat) (zs : List Int) (p d : Nat) (V : Option (List Int)) : Prop :=
  (∃ (s q : Nat) (a' : Option Addr) (cap' : Nat), p ≤ s ∧ s < q ∧ q ≤ zs.length ∧ e = .returned (.slice a' (q - s) cap') ∧ Bs w' a' ((zs.take q).drop s) ∧ Hid (Pl.ws (zs.drop p) = zs.drop s) ∧ Hid (V = some (zs.drop q)) ∧ Sc w' b a cap zs q d false) ∨
  (∃ v dep, e = .returned v ∧ Hid (V = none) ∧ Sc w' b a cap zs zs.length dep true)

/-- The head of a loop over an array's or an object's contents: alive at p', or faulted. -/
def Ast (w wr : World) (b : Nat) (a : Option Addr) (cap : Nat) (zs : List Int) (d q0 k : Nat) (val : Nat → Bool → List Int → Option (List Int)) (N : Nat) (V : Option (List Int)) (gh : Nat) : Prop :=
  w.grownBy wr (some b) ∧
  ((d < 10000 ∧ ∃ p' G : Nat, zs.length - p' + 1 ≤ gh ∧ q0 < p' ∧ p' ≤ zs.length ∧ k < p' ∧ 2 * (zs.length - p') + 2 ≤ G ∧ G ≤ N ∧ Hid (V = val G (k == 0) (zs.drop p')) ∧ Sc wr b a cap zs p' ((d : Int) + 1) false) ∨
   (Hid (V = none) ∧ ∃ dep, Sc wr b a cap zs zs.length dep true))

theorem ast_start {w w1 w2 : World} {b : Nat} {a : Option Addr} {cap : Nat} {zs : List Int} {d q0 F N : Nat} {val : Nat → Bool → List Int → Option (List Int)} {V : Option (List Int)}
    (hg : w.grownBy w1 (some b)) (hg2 : w1.grownBy w2 (some b)) (hq : q0 < zs.length) (hF : F ≤ N) (hb : 2 * (zs.length - (q0 + 1)) + 2 ≤ F)
    (HS : Hid (V = if 10000 ≤ d then none else val F true (zs.drop (q0 + 1))))
    (hr : ((d : Int) < 10000 ∧ Sc w2 b a cap zs (q0 + 1) ((d : Int) + 1) false) ∨ (10000 ≤ (d : Int) ∧ Sc w2 b a cap zs zs.length ((d : Int) + 1) true)) :
    Ast w w2 b a cap zs d q0 0 val N V (zs.length - q0) := by
  refine ⟨grownBy_trans hg hg2, ?_⟩
  rcases hr with ⟨h1, h2⟩ | ⟨h1, h2⟩
  · refine .inl ⟨by omega, q0 + 1, F, by omega, by omega, by omega, by omega, hb, hF, ?_, h2⟩
    show _ = _
    rw [HS.out, if_neg (by omega)]
    rfl
  · refine .inr ⟨?_, _, h2⟩
    show _ = _
    rw [HS.out, if_pos (by omega)]

section
variable {b : Nat} {a : Option Addr} {cap : Nat} {zs : List Int}

set_option maxHeartbeats 4000000 in
theorem value_any (hn : zs.length ≤ 1000000000) (hcap : zs.length ≤ cap) (hby : ∀ c ∈ zs, 0 ≤ c ∧ c ≤ 255) (N : Nat) :
    ∀ (F : Nat) (w : World) (p d : Nat), F ≤ N → 2 * (zs.length - p) + 1 ≤ F → p ≤ zs.length → d ≤ 10000 → Sc w b a cap zs p d false →
    Calls Try.prog 38 #[.pointer (some ⟨b, 0, none⟩)] w fun e w' => w.grownBy w' (some b) ∧ Vald e w' b a cap zs p d (Pl.val F 0 true d (zs.drop p)) := by
  induction N with
  | zero => intro F w p d hF hb; omega
  | succ N ih =>
    intro F w p d hF hbd hp hd h
    obtain ⟨F, rfl⟩ : ∃ f, F = f + 1 := ⟨F - 1, by omega⟩
    have IH : Hid (∀ (F : Nat) (w : World) (p d : Nat), F ≤ N → 2 * (zs.length - p) + 1 ≤ F → p ≤ zs.length → d ≤ 10000 → Sc w b a cap zs p d false →
      Calls Try.prog 38 #[.pointer (some ⟨b, 0, none⟩)] w fun e w' => w.grownBy w' (some b) ∧ Vald e w' b a cap zs p d (Pl.val F 0 true d (zs.drop p))) := ih
    clear ih
    go_enter Try.func38, Try.ntmps38
    go_wp2_with fail
    refine (peek_any h hp hn).mono ?_
    rintro e w1 ⟨hg, hpk⟩
    rcases hpk with ⟨q0, c, hpq, hq, rfl, hw, hdr, hs⟩ | ⟨rfl, hw, hs⟩
    · obtain ⟨c0, c1, c2, c3, f1, f2, f3⟩ := hs.all
      have hV := val0_cons (f := F) (d := d) (first := true) hw.out
      generalize hVV : Pl.val (F + 1) 0 true d (zs.drop p) = V at hV
      have HV : Hid (V = if c = 34 then Pl.strB (zs.drop (q0 + 1)) else if c = 123 then (if 10000 ≤ d then none else Pl.val F 2 true (d + 1) (zs.drop (q0 + 1))) else if c = 91 then (if 10000 ≤ d then none else Pl.val F 1 true (d + 1) (zs.drop (q0 + 1))) else Pl.lit (c :: zs.drop (q0 + 1))) := hV
      clear hV
      have HVV : Hid (Pl.val (F + 1) 0 true d (zs.drop p) = V) := hVV
      clear hVV
      go_upto_region 3 with fail
      go_cut [13] from 13 to 13 (fun t wr => t = .int .u8 c ∧ wr = w1)
      case first =>
        go_wp2
        go_meet
        case rel => exact ⟨rfl, rfl⟩
      case rest =>
      obtain ⟨rfl, hw1⟩ := hcut
      obtain rfl := hw1.symm
      go_step
      go_cut [] from 14 to 45 (fun wr => w.grownBy wr (some b) ∧ Vst wr b a cap zs q0 d V)
      case rest =>
        obtain ⟨hg2, hv⟩ := hcut
        clear hg hs c0 c1 c2 c3 f1 f2 f3 HV
        rcases hv with ⟨q, hsq, hqn, hVq, hs⟩ | ⟨hVq, dep, hs⟩
        · obtain ⟨c0, c1, c2, c3, f1, f2, f3⟩ := hs.all
          have hsl := fun W => run_sl W a zs.length cap (q0 : Int) (q : Int) q0 q rfl rfl (by omega) (by omega)
          go_wp2
          go_quiet (fail)
          go_wp2
          go_ret
          exact ⟨grownBy_trans hg2 (grownBy_drewN _ _ _), .inl ⟨q0, q, slA a cap q0, cap - q0, hpq, hsq, hqn, rfl, slA_bs hs.2 q0 q hqn hcap, by show _ = _; rw [hw.out, hdr.out], by show _ = _; rw [HVV.out]; exact hVq, hs.drewN _⟩⟩
        · obtain ⟨c0, c1, c2, c3, f1, f2, f3⟩ := hs.all
          have hsl := fun W => run_sl W a zs.length cap (q0 : Int) (zs.length : Int) q0 zs.length rfl rfl (by omega) (by omega)
          go_wp2
          go_quiet (fail)
          go_wp2
          go_ret
          exact ⟨grownBy_trans hg2 (grownBy_drewN _ _ _), .inr ⟨_, dep, rfl, by show _ = _; rw [HVV.out]; exact hVq, hs.drewN _⟩⟩
      case first =>
        rcases beq_cases c 34 with ⟨t1, e1⟩ | ⟨t1, e1⟩
        · have HS : Hid (V = Pl.strB (zs.drop (q0 + 1))) := by show _ = _; rw [HV.out, if_pos e1.out]
          clear HV
          have hwq : Hid (Pl.ws (zs.drop q0) = 34 :: zs.drop (q0 + 1)) := by
            show _ = _
            rw [hdr.out, e1.out, ws_no (by decide)]
          go_wp2_with fail
          refine (str_any hs (by omega) hn hcap).mono ?_
          rintro e w2 ⟨hg2, hr⟩
          rcases hr with ⟨s, q, a', cap', hps, hsq, hqn, rfl, hb2, hx, hs2⟩ | ⟨rfl, hx, hs2⟩
          · have hst : Hid (V = some (zs.drop (q + 1))) := by
              obtain ⟨x1, x2⟩ := hx.out
              rw [hwq.out] at x1
              show _ = _
              rw [HS.out, (List.cons.inj x1).2, x2]
            go_wp2
            go_meet
            case rel => exact ⟨grownBy_trans hg hg2, .inl ⟨q + 1, by omega, by omega, hst, hs2⟩⟩
          · have hst : Hid (V = none) := by
              have x1 := hx.out
              rw [Pl.str, hwq.out] at x1
              show _ = _
              rw [HS.out]
              simpa using x1
            go_wp2
            go_meet
            case rel => exact ⟨grownBy_trans hg hg2, .inr ⟨hst, _, hs2⟩⟩
        · rcases beq_cases c 123 with ⟨t2, e2⟩ | ⟨t2, e2⟩
          · have HS : Hid (V = if 10000 ≤ d then none else Pl.val F 2 true (d + 1) (zs.drop (q0 + 1))) := by show _ = _; rw [HV.out, if_neg e1.out, if_pos e2.out]
            clear HV
            go_wp2_with fail
            refine (open_any hs hq hn (by omega) (by omega)).mono ?_
            rintro e w2 ⟨rfl, hg2, hr⟩
            have hst : Ast w w2 b a cap zs d q0 0 (Pl.val · 2 · (d + 1) ·) N V (zs.length - q0) := ast_start hg hg2 hq (by omega) (by omega) HS hr
            clear hr hs c0 c1 c2 c3 f1 f2 f3
            go_wp2_with fail
            go_loopg [5] (zs.length - q0) (fun gh t wr => ∃ k : Nat, t = .int .i64 k ∧ k ≤ 1000000000 ∧ Ast w wr b a cap zs d q0 k (Pl.val · 2 · (d + 1) ·) N V gh)
            case atStart => exact ⟨0, rfl, by omega, hst⟩
            case round =>
              clear hst
              obtain ⟨k, rfl, hk, hgr, hst⟩ := hrel
              rcases hst with ⟨hdl, p', G, hgh, hqp, hpn, hkp, hG, hGN, hVG, hs⟩ | ⟨hVn, dep, hs⟩
              · go_wp2_with fail
                refine (more_any 125 k hs hpn hn rfl (by omega) (by omega)).mono ?_
                rintro e w3 ⟨hg3, hm⟩
                obtain ⟨G, rfl⟩ : ∃ g, G = g + 1 := ⟨G - 1, by omega⟩
                rcases hm with ⟨q, hqn, rfl, hwe, hs3⟩ | ⟨q, c', r, hpq', hqn, rfl, hwc, hcm, hs3⟩ | ⟨rfl, hbad, hs3⟩
                · have hend : Hid (V = some (zs.drop (q + 1))) := by show _ = _; rw [hVG.out, val2_end hwe.out]
                  have hlen := ws_len (zs.drop p')
                  rw [hwe.out] at hlen
                  simp at hlen
                  have hs4 : Sc w3 b a cap zs (q + 1) (d : Int) false := by rw [show (d : Int) = (d : Int) + 1 - 1 from by omega]; exact hs3
                  clear hs3 hs
                  go_wp2_with fail
                  go_meet
                  case rel => exact ⟨grownBy_trans hgr hg3, .inl ⟨q + 1, by omega, by omega, hend, hs4⟩⟩
                · have hs4 : Sc w3 b a cap zs q ((d + 1 : Nat) : Int) false := by rw [show ((d + 1 : Nat) : Int) = (d : Int) + 1 from by omega]; exact hs3
                  have hnext : Hid (V = (((Pl.str (zs.drop q)).bind (Pl.expect 58)).bind (Pl.val G 0 true (d + 1))).bind (Pl.val G 2 false (d + 1))) := by show _ = _; rw [hVG.out, val2_more hwc.out.1 hwc.out.2 hcm.out]
                  clear hs3 hs
                  go_wp2_with fail
                  refine (str_any hs4 hqn hn hcap).mono ?_
                  rintro e w4 ⟨hg4, hr⟩
                  rcases hr with ⟨s4, q4, a4, cap4, hps4, hsq4, hqn4, rfl, hb4, hx4, hs5⟩ | ⟨rfl, hx4, hs5⟩
                  · have hn4 : Hid (V = ((Pl.expect 58 (zs.drop (q4 + 1))).bind (Pl.val G 0 true (d + 1))).bind (Pl.val G 2 false (d + 1))) := by
                      show _ = _
                      rw [hnext.out, Pl.str, hx4.out.1]
                      simp [hx4.out.2]
                    clear hs4
                    go_wp2_with fail
                    refine (expect_any 58 hs5 (by omega) hn rfl).mono ?_
                    rintro e w5 ⟨rfl, hg5, hr5⟩
                    rcases hr5 with ⟨q5, hqn5, hex, hs6⟩ | ⟨hex, hs6⟩
                    · have hlen5 := expect_len hex
                      have hn5 : Hid (V = (Pl.val G 0 true (d + 1) (zs.drop q5)).bind (Pl.val G 2 false (d + 1))) := by
                        show _ = _
                        rw [hn4.out, hex]
                        rfl
                      simp at hlen5
                      clear hs5 hex
                      go_wp2_with fail
                      refine (IH.out G w5 q5 (d + 1) (by omega) (by omega) hqn5 (by omega) hs6).mono ?_
                      rintro e w6 ⟨hg6, hv⟩
                      rcases hv with ⟨s2, q2, a2, cap2, hps2, hsq2, hqn2, rfl, hb2, hws2, hV2, hs7⟩ | ⟨v2, dep2, rfl, hV2, hs7⟩
                      · have hs8 : Sc w6 b a cap zs q2 ((d : Int) + 1) false := by rw [show (d : Int) + 1 = ((d + 1 : Nat) : Int) from by omega]; exact hs7
                        have hnx : Hid (V = Pl.val G 2 false (d + 1) (zs.drop q2)) := by show _ = _; rw [hn5.out, hV2.out]; rfl
                        clear hs7 hs6
                        go_wp2_with fail
                        go_roundg (zs.length - q2 + 1)
                        case measure => omega
                        case rel => exact ⟨k + 1, by go_num, by omega, grownBy_trans hgr (grownBy_trans (grownBy_trans hg3 hg4) (grownBy_trans hg5 hg6)), .inl ⟨hdl, q2, G, Nat.le_refl _, by omega, hqn2, by omega, by omega, by omega, hnx, hs8⟩⟩
                      · have hno : Hid (V = none) := by show _ = _; rw [hn5.out, hV2.out]; rfl
                        clear hs6
                        go_wp2_with fail
                        go_roundg 0
                        case measure => omega
                        case rel => exact ⟨k + 1, by go_num, by omega, grownBy_trans hgr (grownBy_trans (grownBy_trans hg3 hg4) (grownBy_trans hg5 hg6)), .inr ⟨hno, dep2, hs7⟩⟩
                    · have hno : Hid (V = none) := by show _ = _; rw [hn4.out, hex]; rfl
                      clear hs5 hex
                      go_wp2_with fail
                      refine (value_flt hs6 hn hcap hby).mono ?_
                      rintro e w6 ⟨⟨v6, rfl⟩, hg6, hs7⟩
                      clear hs6
                      go_wp2_with fail
                      go_roundg 0
                      case measure => omega
                      case rel => exact ⟨k + 1, by go_num, by omega, grownBy_trans hgr (grownBy_trans (grownBy_trans hg3 hg4) (grownBy_trans hg5 hg6)), .inr ⟨hno, _, hs7⟩⟩
                  · have hno : Hid (V = none) := by show _ = _; rw [hnext.out, hx4.out]; rfl
                    clear hs4
                    go_wp2_with fail
                    refine (expect_any 58 hs5 (Nat.le_refl _) hn rfl).mono ?_
                    rintro e w5 ⟨rfl, hg5, hr5⟩
                    rcases hr5 with ⟨q5, hqn5, hex, hs6⟩ | ⟨hex, hs6⟩
                    · simp [Pl.expect, Pl.ws] at hex
                    · clear hs5 hex
                      go_wp2_with fail
                      refine (value_flt hs6 hn hcap hby).mono ?_
                      rintro e w6 ⟨⟨v6, rfl⟩, hg6, hs7⟩
                      clear hs6
                      go_wp2_with fail
                      go_roundg 0
                      case measure => omega
                      case rel => exact ⟨k + 1, by go_num, by omega, grownBy_trans hgr (grownBy_trans (grownBy_trans hg3 hg4) (grownBy_trans hg5 hg6)), .inr ⟨hno, _, hs7⟩⟩
                · have hno : Hid (V = none) := by show _ = _; rw [hVG.out, val2_bad hbad.out]
                  clear hs
                  go_wp2_with fail
                  go_meet
                  case rel => exact ⟨grownBy_trans hgr hg3, .inr ⟨hno, _, hs3⟩⟩
              · go_wp2_with fail
                refine (more_flt 125 k hs hn rfl).mono ?_
                rintro e w3 ⟨rfl, hg3, hs3⟩
                clear hs
                go_wp2_with fail
                go_meet
                case rel => exact ⟨grownBy_trans hgr hg3, .inr ⟨hVn, _, hs3⟩⟩
          · rcases beq_cases c 91 with ⟨t3, e3⟩ | ⟨t3, e3⟩
            · have HS : Hid (V = if 10000 ≤ d then none else Pl.val F 1 true (d + 1) (zs.drop (q0 + 1))) := by show _ = _; rw [HV.out, if_neg e1.out, if_neg e2.out, if_pos e3.out]
              clear HV
              go_wp2_with fail
              refine (open_any hs hq hn (by omega) (by omega)).mono ?_
              rintro e w2 ⟨rfl, hg2, hr⟩
              have hst : Ast w w2 b a cap zs d q0 0 (Pl.val · 1 · (d + 1) ·) N V (zs.length - q0) := ast_start hg hg2 hq (by omega) (by omega) HS hr
              clear hr hs c0 c1 c2 c3 f1 f2 f3
              go_wp2_with fail
              go_loopg [6] (zs.length - q0) (fun gh t wr => ∃ k : Nat, t = .int .i64 k ∧ k ≤ 1000000000 ∧ Ast w wr b a cap zs d q0 k (Pl.val · 1 · (d + 1) ·) N V gh)
              case atStart => exact ⟨0, rfl, by omega, hst⟩
              case round =>
                clear hst
                obtain ⟨k, rfl, hk, hgr, hst⟩ := hrel
                rcases hst with ⟨hdl, p', G, hgh, hqp, hpn, hkp, hG, hGN, hVG, hs⟩ | ⟨hVn, dep, hs⟩
                · go_wp2_with fail
                  refine (more_any 93 k hs hpn hn rfl (by omega) (by omega)).mono ?_
                  rintro e w3 ⟨hg3, hm⟩
                  obtain ⟨G, rfl⟩ : ∃ g, G = g + 1 := ⟨G - 1, by omega⟩
                  rcases hm with ⟨q, hqn, rfl, hwe, hs3⟩ | ⟨q, c', r, hpq', hqn, rfl, hwc, hcm, hs3⟩ | ⟨rfl, hbad, hs3⟩
                  · have hend : Hid (V = some (zs.drop (q + 1))) := by show _ = _; rw [hVG.out, val1_end hwe.out]
                    have hlen := ws_len (zs.drop p')
                    rw [hwe.out] at hlen
                    simp at hlen
                    have hs4 : Sc w3 b a cap zs (q + 1) (d : Int) false := by rw [show (d : Int) = (d : Int) + 1 - 1 from by omega]; exact hs3
                    clear hs3 hs
                    go_wp2_with fail
                    go_meet
                    case rel => exact ⟨grownBy_trans hgr hg3, .inl ⟨q + 1, by omega, by omega, hend, hs4⟩⟩
                  · have hs4 : Sc w3 b a cap zs q ((d + 1 : Nat) : Int) false := by rw [show ((d + 1 : Nat) : Int) = (d : Int) + 1 from by omega]; exact hs3
                    have hnext : Hid (V = (Pl.val G 0 true (d + 1) (zs.drop q)).bind (Pl.val G 1 false (d + 1))) := by show _ = _; rw [hVG.out, val1_more hwc.out.1 hwc.out.2 hcm.out]
                    clear hs3 hs
                    go_wp2_with fail
                    refine (IH.out G w3 q (d + 1) (by omega) (by omega) hqn (by omega) hs4).mono ?_
                    rintro e w4 ⟨hg4, hv⟩
                    rcases hv with ⟨s2, q2, a2, cap2, hps2, hsq2, hqn2, rfl, hb2, hws2, hV2, hs5⟩ | ⟨v2, dep2, rfl, hV2, hs5⟩
                    · have hs6 : Sc w4 b a cap zs q2 ((d : Int) + 1) false := by rw [show (d : Int) + 1 = ((d + 1 : Nat) : Int) from by omega]; exact hs5
                      have hnx : Hid (V = Pl.val G 1 false (d + 1) (zs.drop q2)) := by show _ = _; rw [hnext.out, hV2.out]; rfl
                      clear hs5 hs4
                      go_wp2_with fail
                      go_roundg (zs.length - q2 + 1)
                      case measure => omega
                      case rel => exact ⟨k + 1, by go_num, by omega, grownBy_trans hgr (grownBy_trans hg3 hg4), .inl ⟨hdl, q2, G, Nat.le_refl _, by omega, hqn2, by omega, by omega, by omega, hnx, hs6⟩⟩
                    · have hno : Hid (V = none) := by show _ = _; rw [hnext.out, hV2.out]; rfl
                      clear hs4
                      go_wp2_with fail
                      go_roundg 0
                      case measure => omega
                      case rel => exact ⟨k + 1, by go_num, by omega, grownBy_trans hgr (grownBy_trans hg3 hg4), .inr ⟨hno, dep2, hs5⟩⟩
                  · have hno : Hid (V = none) := by show _ = _; rw [hVG.out, val1_bad hbad.out]
                    clear hs
                    go_wp2_with fail
                    go_meet
                    case rel => exact ⟨grownBy_trans hgr hg3, .inr ⟨hno, _, hs3⟩⟩
                · go_wp2_with fail
                  refine (more_flt 93 k hs hn rfl).mono ?_
                  rintro e w3 ⟨rfl, hg3, hs3⟩
                  clear hs
                  go_wp2_with fail
                  go_meet
                  case rel => exact ⟨grownBy_trans hgr hg3, .inr ⟨hVn, _, hs3⟩⟩
            · have HS : Hid (V = Pl.lit (zs.drop q0)) := by show _ = _; rw [HV.out, if_neg e1.out, if_neg e2.out, if_neg e3.out, hdr.out]
              clear HV
              go_wp2_with fail
              refine (literal_any hs (by omega) hn hcap hby).mono ?_
              rintro e w2 ⟨rfl, hg2, hr⟩
              rcases hr with ⟨q, hqn, hx, hs2⟩ | ⟨hx, hs2⟩
              · have hst : Hid (V = some (zs.drop q)) := by show _ = _; rw [HS.out, hx]
                have hlen := lit_len hx
                have hgt : q0 < q := by simp at hlen; omega
                clear hx hlen
                go_wp2
                go_meet
                case rel => exact ⟨grownBy_trans hg hg2, .inl ⟨q, hgt, hqn, hst, hs2⟩⟩
              · have hst : Hid (V = none) := by show _ = _; rw [HS.out, hx]
                clear hx
                go_wp2
                go_meet
                case rel => exact ⟨grownBy_trans hg hg2, .inr ⟨hst, _, hs2⟩⟩
    · have HN : Hid (Pl.val (F + 1) 0 true d (zs.drop p) = none) := val0_nil hw.out
      obtain ⟨c0, c1, c2, c3, f1, f2, f3⟩ := hs.all
      go_wp2_with fail
      refine (literal_any hs (Nat.le_refl _) hn hcap hby).mono ?_
      rintro e w2 ⟨rfl, hg2, hr⟩
      rcases hr with ⟨q2, hq2, hex, hs2⟩ | ⟨hex, hs2⟩
      · simp [Pl.lit] at hex
      · clear hex
        obtain ⟨c0, c1, c2, c3, f1, f2, f3⟩ := hs2.all
        have hsl := fun W => run_sl W a zs.length cap (zs.length : Int) (zs.length : Int) zs.length zs.length rfl rfl (Nat.le_refl _) hcap
        go_wp2
        go_quiet (fail)
        go_wp2
        go_ret
        exact ⟨grownBy_trans hg (grownBy_trans hg2 (grownBy_drewN _ _ _)), .inr ⟨_, _, rfl, HN, hs2.drewN _⟩⟩
end
end Go.Proofs.Qxb6600109a
