import Derived.Test.Qxb6600109aPeek
namespace Go.Proofs.Qxb6600109a
open Go.RowKit

theorem retB {a b : Bool} (h : a = b) : Ending.returned (.bool a) = .returned (.bool b) := by rw [h]

def Pl.hexN : Nat → List Int → Bool
  | 0, _ => true
  | _ + 1, [] => false
  | k + 1, c :: r => Pl.hex c && Pl.hexN k r
theorem Pl.hex4_eq (l : List Int) : Pl.hex4 l = Pl.hexN 4 l := by
  match l with
  | [] => rfl
  | [_] => simp [Pl.hex4, Pl.hexN]
  | [_, _] => simp [Pl.hex4, Pl.hexN]
  | [_, _, _] => simp [Pl.hex4, Pl.hexN]
  | a :: b :: c :: d :: r => simp [Pl.hex4, Pl.hexN, Bool.and_assoc]

theorem hex_cases (c : Int) : (c < 48 ∧ Hid (Pl.hex c = false)) ∨ (48 ≤ c ∧ c ≤ 57 ∧ Hid (Pl.hex c = true)) ∨ (57 < c ∧ c < 65 ∧ Hid (Pl.hex c = false)) ∨ (65 ≤ c ∧ c ≤ 70 ∧ Hid (Pl.hex c = true)) ∨
    (70 < c ∧ c < 97 ∧ Hid (Pl.hex c = false)) ∨ (97 ≤ c ∧ c ≤ 102 ∧ Hid (Pl.hex c = true)) ∨ (102 < c ∧ Hid (Pl.hex c = false)) := by
  have key : ∀ x : Bool, ((48 ≤ c ∧ c ≤ 57) ∨ (97 ≤ c ∧ c ≤ 102) ∨ (65 ≤ c ∧ c ≤ 70) ↔ x = true) → Hid (Pl.hex c = x) := by
    intro x hx
    show Pl.hex c = x
    rw [Bool.eq_iff_iff, ← hx]
    simp [Pl.hex]
    omega
  rcases (show c < 48 ∨ (48 ≤ c ∧ c ≤ 57) ∨ (57 < c ∧ c < 65) ∨ (65 ≤ c ∧ c ≤ 70) ∨ (70 < c ∧ c < 97) ∨ (97 ≤ c ∧ c ≤ 102) ∨ 102 < c from by omega) with h | ⟨h, h'⟩ | ⟨h, h'⟩ | ⟨h, h'⟩ | ⟨h, h'⟩ | ⟨h, h'⟩ | h
  · exact .inl ⟨h, key false (by simp; omega)⟩
  · exact .inr (.inl ⟨h, h', key true (by simp; omega)⟩)
  · exact .inr (.inr (.inl ⟨h, h', key false (by simp; omega)⟩))
  · exact .inr (.inr (.inr (.inl ⟨h, h', key true (by simp; omega)⟩)))
  · exact .inr (.inr (.inr (.inr (.inl ⟨h, h', key false (by simp; omega)⟩))))
  · exact .inr (.inr (.inr (.inr (.inr (.inl ⟨h, h', key true (by simp; omega)⟩)))))
  · exact .inr (.inr (.inr (.inr (.inr (.inr ⟨h, key false (by simp; omega)⟩)))))

section
variable {w : World} {b : Nat} {a : Option Addr} {cap : Nat} {zs : List Int} {p : Nat} {dep : Int} {flt : Bool}

set_option maxHeartbeats 2000000 in
theorem escape_any (i : Nat) (x : Int) (hx : x = i) (h : Sc w b a cap zs p dep flt) (hi : i ≤ zs.length) (hn : zs.length ≤ 1000000000) :
    Calls Try.prog 42 #[.pointer (some ⟨b, 0, none⟩), .int .i64 x] w fun e w' => e = .returned (.bool (Pl.esc (zs.drop i))) ∧ w' = w := by
  subst hx
  obtain ⟨c0, c1, c2, c3, f1, f2, f3⟩ := h.all
  by_cases hlt : i < zs.length
  · obtain ⟨bd, off, c, rfl, hc, hdr⟩ := h.2.atH hlt
    by_cases h34 : c ∈ [34, 92, 47, 98, 102, 110, 114, 116]
    · have he : Hid (Pl.esc (zs.drop i) = true) := by
        show _ = _
        rw [hdr.out]
        simp at h34
        rcases h34 with rfl | rfl | rfl | rfl | rfl | rfl | rfl | rfl <;> rfl
      simp at h34
      rcases h34 with rfl | rfl | rfl | rfl | rfl | rfl | rfl | rfl
      all_goals
        go_enter Try.func42, Try.ntmps42
        go_wp2
        go_ret
        exact ⟨retB he.out.symm, rfl⟩
    · simp at h34
      obtain ⟨n1, n2, n3, n4, n5, n6, n7, n8⟩ := h34
      have t1 : (c == 34) = false := by simp [n1]
      have t2 : (c == 92) = false := by simp [n2]
      have t3 : (c == 47) = false := by simp [n3]
      have t4 : (c == 98) = false := by simp [n4]
      have t5 : (c == 102) = false := by simp [n5]
      have t6 : (c == 110) = false := by simp [n6]
      have t7 : (c == 114) = false := by simp [n7]
      have t8 : (c == 116) = false := by simp [n8]
      clear n1 n2 n3 n4 n5 n6 n7 n8
      have hcc : Hid (Pl.escc c = false) := by simp [Hid, Pl.escc, t1, t2, t3, t4, t5, t6, t7, t8]
      rcases beq_cases c 117 with ⟨t9, e9⟩ | ⟨t9, e9⟩
      · have hes : Hid (Pl.esc (zs.drop i) = Pl.hexN 4 (zs.drop (i + 1))) := by
          show _ = _
          rw [hdr.out, Pl.esc, hcc.out, t9, Pl.hex4_eq]
          simp
        have t13 : decide (zs.length ≤ i) = false := by simp; omega
        go_enter Try.func42, Try.ntmps42
        go_wp2
        go_loop [5] (fun t => ∃ j k : Nat, k ≤ 4 ∧ j ≤ zs.length ∧ t = .int .i64 (j : Int) ∧ Hid (j = i + 1 + k) ∧ Hid (Pl.esc (zs.drop i) = Pl.hexN (4 - k) (zs.drop j))) (fun t => i + 5 - (intOf t).toNat)
        case atStart => exact ⟨i + 1, 0, by omega, by omega, by go_num, rfl, hes⟩
        case round =>
          clear hes
          obtain ⟨j, k, hk, hik, rfl, hj, hes⟩ := hrel
          have hj' := hj.out
          by_cases hk4 : k = 4
          · have hge : ¬ (j : Int) ≤ (i : Int) + 4 := by omega
            have hke : Hid (k = 4) := hk4
            clear hj' hk4
            go_wp2
            go_ret
            exact ⟨retB (by rw [hes.out, hke.out]; rfl), rfl⟩
          · have hk4' : k < 4 := by omega
            have hle : (j : Int) ≤ (i : Int) + 4 := by omega
            have t37 : decide ((j : Int) ≤ (i : Int) + 4) = true := by simpa using hle
            have hj2 : j + 1 = i + 1 + (k + 1) := by omega
            have hjj : Hid (j + 1 = i + 1 + (k + 1)) := hj2
            have hgt : i < j := by omega
            clear hj' hk4 hj2
            by_cases hl : j < zs.length
            · have t46 : decide (zs.length ≤ j) = false := by simp; omega
              obtain ⟨bd', off', d, ea, hd, hdd⟩ := h.2.atH hl
              cases ea
              have hd : w.cell? ⟨bd, off + j, none⟩ = some (.int .u8 d) := hd
              have hst : Hid (Pl.hexN (4 - k) (zs.drop j) = (Pl.hex d && Pl.hexN (4 - (k + 1)) (zs.drop (j + 1)))) := by
                show _ = _
                rw [hdd.out, show 4 - k = (4 - (k + 1)) + 1 from by omega]
                rfl
              go_upto_region 20 with fail
              go_cut [76] from 54 to 75 (fun t wr => t = .bool (!Pl.hex d) ∧ wr = w)
              case first =>
                rcases hex_cases d with ⟨g1, e⟩ | ⟨g1, g2, e⟩ | ⟨g1, g2, e⟩ | ⟨g1, g2, e⟩ | ⟨g1, g2, e⟩ | ⟨g1, g2, e⟩ | ⟨g1, e⟩
                all_goals
                  go_wp2
                  go_meet
                  case rel => exact ⟨by rw [e.out]; first | rfl | (simp <;> omega), rfl⟩
              case rest =>
              obtain ⟨rfl, hw⟩ := hcut
              obtain rfl := hw.symm
              rcases hh : Pl.hex d with _ | _
              · go_wp2
                go_ret
                exact ⟨retB (by rw [hes.out, hst.out, hh]; rfl), rfl⟩
              · go_wp2
                go_round
                case rel => exact ⟨j + 1, k + 1, by omega, by omega, by go_num, hjj, by show _ = _; rw [hes.out, hst.out, hh]; rfl⟩
                case measure => simp [intOf]; omega
            · go_wp2
              go_ret
              exact ⟨retB (by rw [hes.out, List.drop_of_length_le (by omega), show 4 - k = (3 - k) + 1 from by omega]; rfl), rfl⟩
      · go_enter Try.func42, Try.ntmps42
        go_wp2
        go_ret
        exact ⟨retB (by rw [hdr.out, Pl.esc, hcc.out, t9]; rfl), rfl⟩
  · go_enter Try.func42, Try.ntmps42
    go_wp2
    go_ret
    exact ⟨retB (by rw [List.drop_of_length_le (by omega)]; rfl), rfl⟩
end
end Go.Proofs.Qxb6600109a
