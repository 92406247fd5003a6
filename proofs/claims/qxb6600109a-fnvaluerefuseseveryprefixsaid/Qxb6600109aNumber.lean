import Derived.Test.Qxb6600109aNumW
namespace Go.Proofs.Qxb6600109a
open Go.RowKit

theorem beq_cases (c x : Int) : ((c == x) = true ∧ Hid (c = x)) ∨ ((c == x) = false ∧ Hid (¬ c = x)) := by
  by_cases h : c = x
  · exact .inl ⟨by simp [h], h⟩
  · exact .inr ⟨by simp [h], h⟩

section
variable {w : World} {b : Nat} {a : Option Addr} {cap : Nat} {zs : List Int} {p : Nat} {dep : Int} {flt : Bool}

theorem Bs.atH {w : World} {a : Option Addr} {zs : List Int} (h : Bs w a zs) {i : Nat} (hi : i < zs.length) :
    ∃ bd off c, a = some ⟨bd, off, none⟩ ∧ w.cell? ⟨bd, off + i, none⟩ = some (.int .u8 c) ∧ Hid (zs.drop i = c :: zs.drop (i + 1)) := h.at hi

theorem dropH {i : Nat} (h : ¬ i < zs.length) : Hid (zs.drop i = []) := List.drop_of_length_le (by omega)

theorem minus_yes {l : List Int} {c : Int} {r : List Int} (h : Hid (c = 45)) (e : Hid (l = c :: r)) : Hid (r = Pl.minus l) := by rw [e.out, h.out]; simp [Pl.minus, Hid]
theorem minus_no {l : List Int} {c : Int} {r : List Int} (h : Hid (¬ c = 45)) (e : Hid (l = c :: r)) : Hid (l = Pl.minus l) := by have := h.out; rw [e.out]; simp [Pl.minus, Hid, this]
theorem minus_nil {l : List Int} (e : Hid (l = [])) : Hid (l = Pl.minus l) := by rw [e.out]; rfl

/-- The world behind a call of 'number': read, or faulted. -/
def Read (w w' : World) (b : Nat) (a : Option Addr) (cap : Nat) (zs : List Int) (dep : Int) (flt : Bool) (q : Option (List Int)) : Prop :=
  w.grownBy w' (some b) ∧ ((∃ i, i ≤ zs.length ∧ q = some (zs.drop i) ∧ Sc w' b a cap zs i dep flt) ∨ (q = none ∧ Sc w' b a cap zs zs.length dep true))

theorem intp_zero {l r : List Int} {c : Int} {i : Nat} (e : Hid (zs.drop i = c :: r)) (h : Hid (c = 48)) (m : Hid (zs.drop i = l)) : Hid (Pl.intp l = some r) := by
  rw [← m.out, e.out, h.out]; rfl
theorem intp_digs {l r s : List Int} {c : Int} {i : Nat} (e : Hid (zs.drop i = c :: r)) (h0 : Hid (¬ c = 48)) (h : 49 ≤ c) (h' : c ≤ 57) (m : Hid (zs.drop i = l)) (d : Hid (Pl.digits (zs.drop i) = s)) : Hid (Pl.intp l = some s) := by
  rw [← m.out, e.out, ← d.out, e.out]; have := h0.out; simp [Pl.intp, Hid, h, h', this]
theorem num_bad {l r : List Int} {c : Int} {i : Nat} (e : Hid (zs.drop i = c :: r)) (h0 : Hid (¬ c = 48)) (h : ¬ (49 ≤ c ∧ c ≤ 57)) (m : Hid (zs.drop i = Pl.minus l)) : Pl.num l = none := by
  rw [Pl.num, ← m.out, e.out]; have := h0.out; simp [Pl.intp, this, h]
theorem num_badnil {l : List Int} {i : Nat} (e : Hid (zs.drop i = [])) (m : Hid (zs.drop i = Pl.minus l)) : Pl.num l = none := by
  rw [Pl.num, ← m.out, e.out]; rfl

theorem digitsX {x : Int} {i : Nat} (h : Sc w b a cap zs p dep flt) (hx : x = i) (hi : i ≤ zs.length) (hn : zs.length ≤ 1000000000) :
    Calls Try.prog 39 #[.pointer (some ⟨b, 0, none⟩), .int .i64 x] w fun e w' => ∃ k : Nat, e = .returned (.int .i64 k) ∧ k ≤ zs.length ∧ Hid (Pl.digits (zs.drop i) = zs.drop k) ∧ w' = w := by
  subst hx
  exact digits_any h i hi hn
theorem frac_yes {l : List Int} {c : Int} {i k : Nat} (m : Hid (Pl.intp (Pl.minus l) = some (zs.drop i))) (e : Hid (zs.drop i = c :: zs.drop (i + 1))) (h : Hid (c = 46)) (d : Hid (Pl.digits (zs.drop (i + 1)) = zs.drop k)) (hne : Hid (¬ (k : Int) = i + 1)) (hi : i < zs.length) (hk : k ≤ zs.length) : Hid ((Pl.intp (Pl.minus l)).bind Pl.frac = some (zs.drop k)) := by
  have hne := hne.out
  rw [m.out, e.out, h.out]
  have hl : ¬ (zs.drop k).length = (zs.drop (i + 1)).length := by simp; omega
  simp only [Option.bind_some, Pl.frac, if_true, Pl.some1, d.out, if_neg hl, Hid]
theorem frac_bad {l : List Int} {c : Int} {i k : Nat} (m : Hid (Pl.intp (Pl.minus l) = some (zs.drop i))) (e : Hid (zs.drop i = c :: zs.drop (i + 1))) (h : Hid (c = 46)) (d : Hid (Pl.digits (zs.drop (i + 1)) = zs.drop k)) (he : Hid ((k : Int) = i + 1)) : Pl.num l = none := by
  obtain rfl : k = i + 1 := by have := he.out; omega
  rw [Pl.num, m.out, e.out, h.out]
  simp [Pl.frac, Pl.some1, d.out]
theorem frac_no {l r : List Int} {c : Int} {i : Nat} (m : Hid (Pl.intp (Pl.minus l) = some (zs.drop i))) (e : Hid (zs.drop i = c :: r)) (h : Hid (¬ c = 46)) : Hid ((Pl.intp (Pl.minus l)).bind Pl.frac = some (zs.drop i)) := by
  have := h.out
  rw [m.out, e.out]; simp [Pl.frac, Hid, this]
theorem frac_nil {l : List Int} {i : Nat} (m : Hid (Pl.intp (Pl.minus l) = some (zs.drop i))) (e : Hid (zs.drop i = [])) : Hid ((Pl.intp (Pl.minus l)).bind Pl.frac = some (zs.drop i)) := by
  rw [m.out, e.out]; rfl

theorem expo_no {l r : List Int} {c : Int} {i : Nat} (m : Hid ((Pl.intp (Pl.minus l)).bind Pl.frac = some (zs.drop i))) (e : Hid (zs.drop i = c :: r)) (h : Hid (¬ c = 101)) (h' : Hid (¬ c = 69)) : Hid (Pl.num l = some (zs.drop i)) := by
  have := h.out
  have := h'.out
  unfold Hid Pl.num
  rw [m.out, e.out]; simp [Pl.expo, *]
theorem expo_nil {l : List Int} {i : Nat} (m : Hid ((Pl.intp (Pl.minus l)).bind Pl.frac = some (zs.drop i))) (e : Hid (zs.drop i = [])) : Hid (Pl.num l = some (zs.drop i)) := by
  unfold Hid Pl.num
  rw [m.out, e.out]; rfl
theorem expo_yes {l : List Int} {c : Int} {i j k : Nat} (m : Hid ((Pl.intp (Pl.minus l)).bind Pl.frac = some (zs.drop i))) (e : Hid (zs.drop i = c :: zs.drop (i + 1))) (h : Hid (c = 101 ∨ c = 69)) (g : Hid (zs.drop j = Pl.sign (zs.drop (i + 1)))) (d : Hid (Pl.digits (zs.drop j) = zs.drop k)) (hj : j ≤ zs.length) (hk : k ≤ zs.length) (hne : Hid (¬ (k : Int) = j)) : Hid (Pl.num l = some (zs.drop k)) := by
  have hne := hne.out
  unfold Hid Pl.num
  rw [m.out, e.out]
  have hl : ¬ (zs.drop k).length = (zs.drop j).length := by simp; omega
  simp only [Option.bind_some, Pl.expo, h.out, if_true, ← g.out, Pl.some1, d.out, if_neg hl]
theorem expo_bad {l : List Int} {c : Int} {i j k : Nat} (m : Hid ((Pl.intp (Pl.minus l)).bind Pl.frac = some (zs.drop i))) (e : Hid (zs.drop i = c :: zs.drop (i + 1))) (h : Hid (c = 101 ∨ c = 69)) (g : Hid (zs.drop j = Pl.sign (zs.drop (i + 1)))) (d : Hid (Pl.digits (zs.drop j) = zs.drop k)) (he : Hid ((k : Int) = j)) : Pl.num l = none := by
  obtain rfl : k = j := by have := he.out; omega
  unfold Pl.num
  rw [m.out, e.out]
  simp only [Option.bind_some, Pl.expo, h.out, if_true, ← g.out, Pl.some1, d.out]
theorem sign_yes {l : List Int} {c : Int} {r : List Int} (h : Hid (c = 43 ∨ c = 45)) (e : Hid (l = c :: r)) : Hid (r = Pl.sign l) := by rw [e.out]; simp only [Pl.sign, h.out, if_true, Hid]
theorem sign_no {l : List Int} {c : Int} {r : List Int} (h : Hid (¬ c = 43)) (h' : Hid (¬ c = 45)) (e : Hid (l = c :: r)) : Hid (l = Pl.sign l) := by have := h.out; have := h'.out; rw [e.out]; simp [Pl.sign, Hid, *]
theorem sign_nil {l : List Int} (e : Hid (l = [])) : Hid (l = Pl.sign l) := by rw [e.out]; rfl

set_option maxRecDepth 100000 in
set_option maxHeartbeats 1000000 in
theorem number_any (h : Sc w b a cap zs p dep flt) (hp : p ≤ zs.length) (hn : zs.length ≤ 1000000000) :
    Calls Try.prog 34 #[.pointer (some ⟨b, 0, none⟩)] w fun e w' => e = .returned (.tuple #[]) ∧ Read w w' b a cap zs dep flt (Pl.num (zs.drop p)) := by
  obtain ⟨c0, c1, c2, c3, f1, f2, f3⟩ := h.all
  go_enter Try.func34, Try.ntmps34
  go_upto_region 0 with fail
  go_cut [2] from 5 to 8 (fun t wr => t = .int .i64 p ∧ wr = w)
  case first =>
    go_wp2
    go_meet
    case rel => exact ⟨rfl, rfl⟩
  case rest =>
  obtain ⟨rfl, hw⟩ := hcut
  obtain rfl := hw.symm
  go_step
  go_step
  go_cut [2] from 9 to 27 (fun t wr => ∃ i, i ≤ zs.length ∧ t = .int .i64 i ∧ Hid (zs.drop i = Pl.minus (zs.drop p)) ∧ wr = w)
  case first =>
    by_cases hlt : p < zs.length
    · obtain ⟨bd, off, c, rfl, hc, hdr⟩ := h.2.atH hlt
      rcases beq_cases c 45 with ⟨t, e⟩ | ⟨t, e⟩
      · go_wp2
        go_meet
        case rel => exact ⟨p + 1, by omega, by go_num, minus_yes e hdr, rfl⟩
      · go_wp2
        go_meet
        case rel => exact ⟨p, by omega, rfl, minus_no e hdr, rfl⟩
    · go_wp2
      go_meet
      case rel => exact ⟨p, by omega, rfl, minus_nil (dropH hlt), rfl⟩
  case rest =>
  obtain ⟨i, hi, rfl, hm, hw⟩ := hcut
  obtain rfl := hw.symm
  go_step
  go_step
  go_cut [2] from 28 to 80 (fun t wr => ∃ i, i ≤ zs.length ∧ t = .int .i64 i ∧ Hid (Pl.intp (Pl.minus (zs.drop p)) = some (zs.drop i)) ∧ wr = w)
  case first =>
    by_cases hlt : i < zs.length
    · obtain ⟨bd, off, c, rfl, hc, hdr⟩ := h.2.atH hlt
      rcases beq_cases c 48 with ⟨t, e⟩ | ⟨t, e⟩
      · go_wp2
        go_meet
        case rel => exact ⟨i + 1, by omega, by go_num, intp_zero hdr e hm, rfl⟩
      · by_cases h1 : 49 ≤ c
        · by_cases h2 : c ≤ 57
          · go_wp2_with (go_at_call 39; refine (digits_any h _ hi hn).mono ?_; rintro e' w' ⟨k, rfl, hk, hd, rfl⟩)
            go_meet
            case rel => exact ⟨k, hk, rfl, intp_digs hdr e h1 h2 hm hd, rfl⟩
          · go_wp2_with (go_at_call 40; refine (fault_any h).mono ?_; rintro e' w' ⟨rfl, hs, hg⟩)
            refine bodyPost_ret (results_none rfl _ _ _) rfl ?_
            exact ⟨rfl, hg, .inr ⟨num_bad hdr e (by omega) hm, hs⟩⟩
        · go_wp2_with (go_at_call 40; refine (fault_any h).mono ?_; rintro e' w' ⟨rfl, hs, hg⟩)
          refine bodyPost_ret (results_none rfl _ _ _) rfl ?_
          exact ⟨rfl, hg, .inr ⟨num_bad hdr e (by omega) hm, hs⟩⟩
    · go_wp2_with (go_at_call 40; refine (fault_any h).mono ?_; rintro e' w' ⟨rfl, hs, hg⟩)
      refine bodyPost_ret (results_none rfl _ _ _) rfl ?_
      exact ⟨rfl, hg, .inr ⟨num_badnil (dropH hlt) hm, hs⟩⟩
  case rest =>
  clear hm hi
  clear i
  obtain ⟨i, hi, rfl, hm, hw⟩ := hcut
  obtain rfl := hw.symm
  go_step
  go_step
  go_cut [2] from 81 to 107 (fun t wr => ∃ i, i ≤ zs.length ∧ t = .int .i64 i ∧ Hid ((Pl.intp (Pl.minus (zs.drop p))).bind Pl.frac = some (zs.drop i)) ∧ wr = w)
  case first =>
    by_cases hlt : i < zs.length
    · obtain ⟨bd, off, c, rfl, hc, hdr⟩ := h.2.atH hlt
      rcases beq_cases c 46 with ⟨t, e⟩ | ⟨t, e⟩
      · go_wp2_with fail
        refine (digitsX (i := i + 1) h (by omega) (by omega) hn).mono ?_
        rintro e' w' ⟨k, rfl, hk, hd, rfl⟩
        rcases beq_cases (k : Int) (i + 1) with ⟨t', e'⟩ | ⟨t', e'⟩
        · go_wp2_with (go_at_call 40; refine (fault_any h).mono ?_; rintro e' w' ⟨rfl, hs, hg⟩)
          refine bodyPost_ret (results_none rfl _ _ _) rfl ?_
          exact ⟨rfl, hg, .inr ⟨frac_bad hm hdr e hd e', hs⟩⟩
        · go_wp2
          go_meet
          case rel => exact ⟨k, hk, rfl, frac_yes hm hdr e hd e' hlt hk, rfl⟩
      · go_wp2
        go_meet
        case rel => exact ⟨i, hi, rfl, frac_no hm hdr e, rfl⟩
    · go_wp2
      go_meet
      case rel => exact ⟨i, hi, rfl, frac_nil hm (dropH hlt), rfl⟩
  case rest =>
  clear hm hi
  clear i
  obtain ⟨i, hi, rfl, hm, hw⟩ := hcut
  obtain rfl := hw.symm
  go_step
  go_step
  go_cut [2] from 108 to 174 (fun t wr => ∃ i, i ≤ zs.length ∧ t = .int .i64 i ∧ Hid (Pl.num (zs.drop p) = some (zs.drop i)) ∧ wr = w)
  case rest =>
    clear hm hi
    clear i
    obtain ⟨i, hi, rfl, hm, hw⟩ := hcut
    obtain rfl := hw.symm
    go_wp2
    go_end0
    exact ⟨rfl, grownBy_setCell _ _ _ _, .inl ⟨i, hi, hm, h.setPos i⟩⟩
  case first =>
    by_cases hlt : i < zs.length
    · obtain ⟨bd, off, c, rfl, hc, hdr⟩ := h.2.atH hlt
      rcases beq_cases c 101 with ⟨t, e⟩ | ⟨t, e⟩
      · have hE : Hid (c = 101 ∨ c = 69) := .inl e
        go_upto_region 14 with fail
        go_cut [2] from 135 to 136 (fun t wr => t = .int .i64 (i + 1) ∧ wr = w)
        case first =>
          go_wp2
          go_meet
          case rel => exact ⟨rfl, rfl⟩
        case rest =>
        obtain ⟨rfl, hw⟩ := hcut
        obtain rfl := hw.symm
        go_step
        go_step
        go_cut [2] from 137 to 165 (fun t wr => ∃ j, j ≤ zs.length ∧ t = .int .i64 j ∧ Hid (zs.drop j = Pl.sign (zs.drop (i + 1))) ∧ wr = w)
        case first =>
          by_cases hlt2 : i + 1 < zs.length
          · have hlt3 : (i : Int) + 1 < zs.length := by omega
            obtain ⟨bd', off', c', ea, hc', hdr'⟩ := h.2.atH hlt2
            cases ea
            have hc' : w.cell? ⟨bd, off + (i + 1), none⟩ = some (.int .u8 c') := hc'
            rcases beq_cases c' 43 with ⟨t1, e1⟩ | ⟨t1, e1⟩
            · go_wp2
              go_meet
              case rel => exact ⟨i + 2, by omega, by go_num, sign_yes (.inl e1.out) hdr', rfl⟩
            · rcases beq_cases c' 45 with ⟨t2, e2⟩ | ⟨t2, e2⟩
              · go_wp2
                go_meet
                case rel => exact ⟨i + 2, by omega, by go_num, sign_yes (.inr e2.out) hdr', rfl⟩
              · go_wp2
                go_meet
                case rel => exact ⟨i + 1, by omega, by go_num, sign_no e1 e2 hdr', rfl⟩
          · go_wp2
            go_meet
            case rel => exact ⟨i + 1, by omega, by go_num, sign_nil (dropH hlt2), rfl⟩
        case rest =>
        obtain ⟨j, hj, rfl, hm2, hw⟩ := hcut
        obtain rfl := hw.symm
        go_wp2_with fail
        refine (digitsX (i := j) h rfl hj hn).mono ?_
        rintro e' w' ⟨k, rfl, hk, hd, rfl⟩
        rcases beq_cases (k : Int) j with ⟨t', e'⟩ | ⟨t', e'⟩
        · go_wp2_with (go_at_call 40; refine (fault_any h).mono ?_; rintro e' w' ⟨rfl, hs, hg⟩)
          refine bodyPost_ret (results_none rfl _ _ _) rfl ?_
          exact ⟨rfl, hg, .inr ⟨expo_bad hm hdr hE hm2 hd e', hs⟩⟩
        · go_wp2
          go_meet
          case rel => exact ⟨k, hk, rfl, expo_yes hm hdr hE hm2 hd hj hk e', rfl⟩
      rcases beq_cases c 69 with ⟨t2, e2⟩ | ⟨t2, e2⟩
      · have hE : Hid (c = 101 ∨ c = 69) := .inr e2
        go_upto_region 14 with fail
        go_cut [2] from 135 to 136 (fun t wr => t = .int .i64 (i + 1) ∧ wr = w)
        case first =>
          go_wp2
          go_meet
          case rel => exact ⟨rfl, rfl⟩
        case rest =>
        obtain ⟨rfl, hw⟩ := hcut
        obtain rfl := hw.symm
        go_step
        go_step
        go_cut [2] from 137 to 165 (fun t wr => ∃ j, j ≤ zs.length ∧ t = .int .i64 j ∧ Hid (zs.drop j = Pl.sign (zs.drop (i + 1))) ∧ wr = w)
        case first =>
          by_cases hlt2 : i + 1 < zs.length
          · have hlt3 : (i : Int) + 1 < zs.length := by omega
            obtain ⟨bd', off', c', ea, hc', hdr'⟩ := h.2.atH hlt2
            cases ea
            have hc' : w.cell? ⟨bd, off + (i + 1), none⟩ = some (.int .u8 c') := hc'
            rcases beq_cases c' 43 with ⟨t1, e1⟩ | ⟨t1, e1⟩
            · go_wp2
              go_meet
              case rel => exact ⟨i + 2, by omega, by go_num, sign_yes (.inl e1.out) hdr', rfl⟩
            · rcases beq_cases c' 45 with ⟨t2, e2⟩ | ⟨t2, e2⟩
              · go_wp2
                go_meet
                case rel => exact ⟨i + 2, by omega, by go_num, sign_yes (.inr e2.out) hdr', rfl⟩
              · go_wp2
                go_meet
                case rel => exact ⟨i + 1, by omega, by go_num, sign_no e1 e2 hdr', rfl⟩
          · go_wp2
            go_meet
            case rel => exact ⟨i + 1, by omega, by go_num, sign_nil (dropH hlt2), rfl⟩
        case rest =>
        obtain ⟨j, hj, rfl, hm2, hw⟩ := hcut
        obtain rfl := hw.symm
        go_wp2_with fail
        refine (digitsX (i := j) h rfl hj hn).mono ?_
        rintro e' w' ⟨k, rfl, hk, hd, rfl⟩
        rcases beq_cases (k : Int) j with ⟨t', e'⟩ | ⟨t', e'⟩
        · go_wp2_with (go_at_call 40; refine (fault_any h).mono ?_; rintro e' w' ⟨rfl, hs, hg⟩)
          refine bodyPost_ret (results_none rfl _ _ _) rfl ?_
          exact ⟨rfl, hg, .inr ⟨expo_bad hm hdr hE hm2 hd e', hs⟩⟩
        · go_wp2
          go_meet
          case rel => exact ⟨k, hk, rfl, expo_yes hm hdr hE hm2 hd hj hk e', rfl⟩
      · go_wp2
        go_meet
        case rel => exact ⟨i, hi, rfl, expo_no hm hdr e e2, rfl⟩
    · go_wp2
      go_meet
      case rel => exact ⟨i, hi, rfl, expo_nil hm (dropH hlt), rfl⟩
end
end Go.Proofs.Qxb6600109a
