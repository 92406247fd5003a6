import Derived.Test.Qxb6600109aPeek
import Derived.Laws.BytesArg
import Derived.Test.Qxb6600109aSlice
namespace Go.Proofs.Qxb6600109a
open Go.RowKit

theorem Sc.setPosY {w : World} {b : Nat} {a : Option Addr} {cap : Nat} {zs : List Int} {p : Nat} {dep : Int} {flt : Bool} (h : Sc w b a cap zs p dep flt) {x : Int} {q : Nat} (hx : x = q) : Sc (w.setCell ⟨b, 1, none⟩ (.int .i64 x)) b a cap zs q dep flt := h.setPosX hx

theorem ofNat_inj {x y : Int} (hx0 : 0 ≤ x) (hx : x ≤ 255) (hy0 : 0 ≤ y) (hy : y ≤ 255) (h : UInt8.ofNat x.toNat = UInt8.ofNat y.toNat) : x = y := by
  have := congrArg UInt8.toNat h
  simp at this
  omega
theorem map_inj {xs : List Int} : ∀ {ys : List Int}, (∀ c ∈ xs, 0 ≤ c ∧ c ≤ 255) → (∀ c ∈ ys, 0 ≤ c ∧ c ≤ 255) → (xs.map fun n => UInt8.ofNat n.toNat) = (ys.map fun n => UInt8.ofNat n.toNat) → xs = ys := by
  induction xs with
  | nil => intro ys _ _ h; cases ys with | nil => rfl | cons _ _ => simp at h
  | cons x xs ih =>
    intro ys hx hy h
    cases ys with
    | nil => simp at h
    | cons y ys =>
      simp only [List.map_cons, List.cons.injEq] at h
      have e1 := ofNat_inj (hx x (by simp)).1 (hx x (by simp)).2 (hy y (by simp)).1 (hy y (by simp)).2 h.1
      have e2 := ih (fun c hc => hx c (by simp [hc])) (fun c hc => hy c (by simp [hc])) h.2
      rw [e1, e2]

theorem word_yes {xs ys : List Int} (h : xs = ys) : ((strOfNums xs).toList == (ys.map fun n => UInt8.ofNat n.toNat)) = true := by
  rw [Go.ByteArray.toList_eq, strOfNums_data, h]
  simp
theorem word_no {xs ys : List Int} (hx : ∀ c ∈ xs, 0 ≤ c ∧ c ≤ 255) (hy : ∀ c ∈ ys, 0 ≤ c ∧ c ≤ 255) (h : ¬ xs = ys) : ((strOfNums xs).toList == (ys.map fun n => UInt8.ofNat n.toNat)) = false := by
  rw [Go.ByteArray.toList_eq, strOfNums_data]
  simp only [beq_eq_false_iff_ne, ne_eq]
  exact fun e => h (map_inj hx hy e)

section
variable {w : World} {b : Nat} {a : Option Addr} {cap : Nat} {zs : List Int} {p : Nat} {dep : Int} {flt : Bool}

set_option maxHeartbeats 2000000 in
theorem literal_any (h : Sc w b a cap zs p dep flt) (hp : p ≤ zs.length) (hn : zs.length ≤ 1000000000) (hcap : zs.length ≤ cap) (hby : ∀ c ∈ zs, 0 ≤ c ∧ c ≤ 255) :
    Calls Try.prog 49 #[.pointer (some ⟨b, 0, none⟩)] w fun e w' => e = .returned (.tuple #[]) ∧ Read w w' b a cap zs dep flt (Pl.lit (zs.drop p)) := by
  obtain ⟨c0, c1, c2, c3, f1, f2, f3⟩ := h.all
  by_cases hlt : p < zs.length
  · obtain ⟨bd, off, c, rfl, hc, hdr⟩ := h.2.atH hlt
    have hlt' : (p : Int) < zs.length := by omega
    rcases beq_cases c 116 with ⟨t1, e116⟩ | ⟨t1, e116⟩
    · have hlit : Hid (Pl.lit (zs.drop p) = Pl.strip [116, 114, 117, 101] (zs.drop p)) := by
        show _ = _
        rw [hdr.out, Pl.lit, if_pos e116.out]
      by_cases he : p + 4 ≤ zs.length
      · have hsl := fun W => run_sl W (some ⟨bd, off, none⟩) zs.length cap (p : Int) ((p : Int) + 4) p (p + 4) rfl (by omega) (by omega) (by omega)
        simp only [slA_some (show p < cap by omega), show p + 4 - p = 4 from by omega] at hsl
        have hconv : ∀ nq, (convert 22 9 (.slice (some ⟨bd, off + p, none⟩) 4 (cap - p))).run Try.prog (w.drewN nq) = .ok (.string (strOfNums ((zs.drop p).take 4))) (w.drewN nq) := by
          intro nq
          refine run_convert_bytes_arg (w.drewN nq) 22 5 Try.underlying22 Try.underlying5 bd (off + p) _ (cap - p) ((zs.drop p).take 4) (by simp; omega) ?_ 9 Try.underlying9
          intro i hi
          have := h.2.cut p (p + 4) he i (by simp; omega)
          obtain ⟨_, _, e, hc'⟩ := this
          cases e
          rw [List.drop_take, show p + 4 - p = 4 from by omega] at hc'
          exact hc'
        have td : decide ((zs.length : Int) < (p : Int) + 4) = false := by simp; omega
        by_cases hw : (zs.drop p).take 4 = [116, 114, 117, 101]
        · have tb : ((strOfNums ((zs.drop p).take 4)).toList == [116, 114, 117, 101]) = true := word_yes hw
          have hst : Hid (Pl.lit (zs.drop p) = some (zs.drop (p + 4))) := by
            show _ = _
            rw [hlit.out, Pl.strip]
            simp only [List.length_cons, List.length_nil, Nat.zero_add, Nat.reduceAdd]
            rw [if_pos hw, List.drop_drop]
          clear hw
          go_enter Try.func49, Try.ntmps49
          go_wp2
          go_quiet (fail)
          go_wp2
          go_quiet (fail)
          go_wp2
          go_quiet (fail)
          go_wp2
          go_end0
          exact ⟨rfl, grownBy_trans (grownBy_drewN _ _ _) (grownBy_setCell _ _ _ _), .inl ⟨p + 4, he, hst.out, (h.drewN _).setPosX (by omega)⟩⟩
        · have tb : ((strOfNums ((zs.drop p).take 4)).toList == [116, 114, 117, 101]) = false := word_no (fun c hc => hby c (List.mem_of_mem_drop (List.mem_of_mem_take hc))) (by simp) hw
          have hst : Hid (Pl.lit (zs.drop p) = none) := by
            show _ = _
            rw [hlit.out, Pl.strip]
            simp only [List.length_cons, List.length_nil, Nat.zero_add, Nat.reduceAdd]
            rw [if_neg hw]
          clear hw
          go_enter Try.func49, Try.ntmps49
          go_wp2
          go_quiet (fail)
          go_wp2
          go_quiet (fail)
          go_wp2
          go_quiet (fail)
          go_wp2_with fail
          refine (fault_any (h.drewN _)).mono ?_
          rintro e w2 ⟨rfl, hs2, hg2⟩
          go_wp2
          refine bodyPost_ret (results_none rfl _ _ _) rfl ?_
          exact ⟨rfl, grownBy_trans (grownBy_drewN _ _ _) hg2, .inr ⟨hst.out, hs2⟩⟩
      · have td : decide ((zs.length : Int) < (p : Int) + 4) = true := by simp; omega
        have hst : Hid (Pl.lit (zs.drop p) = none) := by
          show _ = _
          rw [hlit.out, Pl.strip]
          simp only [List.length_cons, List.length_nil, Nat.zero_add, Nat.reduceAdd]
          rw [if_neg]
          intro e
          have := congrArg List.length e
          simp at this
          omega
        go_enter Try.func49, Try.ntmps49
        go_wp2
        go_quiet (fail)
        go_wp2
        go_quiet (fail)
        go_wp2
        go_quiet (fail)
        go_wp2_with fail
        refine (fault_any (h.drewN _)).mono ?_
        rintro e w2 ⟨rfl, hs2, hg2⟩
        go_wp2
        refine bodyPost_ret (results_none rfl _ _ _) rfl ?_
        exact ⟨rfl, grownBy_trans (grownBy_drewN _ _ _) hg2, .inr ⟨hst.out, hs2⟩⟩
    rcases beq_cases c 102 with ⟨t2, e102⟩ | ⟨t2, e102⟩
    · have hlit : Hid (Pl.lit (zs.drop p) = Pl.strip [102, 97, 108, 115, 101] (zs.drop p)) := by
        show _ = _
        rw [hdr.out, Pl.lit, if_neg e116.out, if_pos e102.out]
      by_cases he : p + 5 ≤ zs.length
      · have hsl := fun W => run_sl W (some ⟨bd, off, none⟩) zs.length cap (p : Int) ((p : Int) + 5) p (p + 5) rfl (by omega) (by omega) (by omega)
        simp only [slA_some (show p < cap by omega), show p + 5 - p = 5 from by omega] at hsl
        have hconv : ∀ nq, (convert 22 9 (.slice (some ⟨bd, off + p, none⟩) 5 (cap - p))).run Try.prog (w.drewN nq) = .ok (.string (strOfNums ((zs.drop p).take 5))) (w.drewN nq) := by
          intro nq
          refine run_convert_bytes_arg (w.drewN nq) 22 5 Try.underlying22 Try.underlying5 bd (off + p) _ (cap - p) ((zs.drop p).take 5) (by simp; omega) ?_ 9 Try.underlying9
          intro i hi
          have := h.2.cut p (p + 5) he i (by simp; omega)
          obtain ⟨_, _, e, hc'⟩ := this
          cases e
          rw [List.drop_take, show p + 5 - p = 5 from by omega] at hc'
          exact hc'
        have td : decide ((zs.length : Int) < (p : Int) + 5) = false := by simp; omega
        by_cases hw : (zs.drop p).take 5 = [102, 97, 108, 115, 101]
        · have tb : ((strOfNums ((zs.drop p).take 5)).toList == [102, 97, 108, 115, 101]) = true := word_yes hw
          have hst : Hid (Pl.lit (zs.drop p) = some (zs.drop (p + 5))) := by
            show _ = _
            rw [hlit.out, Pl.strip]
            simp only [List.length_cons, List.length_nil, Nat.zero_add, Nat.reduceAdd]
            rw [if_pos hw, List.drop_drop]
          clear hw
          go_enter Try.func49, Try.ntmps49
          go_wp2
          go_quiet (fail)
          go_wp2
          go_quiet (fail)
          go_wp2
          go_quiet (fail)
          go_wp2
          go_end0
          exact ⟨rfl, grownBy_trans (grownBy_drewN _ _ _) (grownBy_setCell _ _ _ _), .inl ⟨p + 5, he, hst.out, (h.drewN _).setPosX (by omega)⟩⟩
        · have tb : ((strOfNums ((zs.drop p).take 5)).toList == [102, 97, 108, 115, 101]) = false := word_no (fun c hc => hby c (List.mem_of_mem_drop (List.mem_of_mem_take hc))) (by simp) hw
          have hst : Hid (Pl.lit (zs.drop p) = none) := by
            show _ = _
            rw [hlit.out, Pl.strip]
            simp only [List.length_cons, List.length_nil, Nat.zero_add, Nat.reduceAdd]
            rw [if_neg hw]
          clear hw
          go_enter Try.func49, Try.ntmps49
          go_wp2
          go_quiet (fail)
          go_wp2
          go_quiet (fail)
          go_wp2
          go_quiet (fail)
          go_wp2_with fail
          refine (fault_any (h.drewN _)).mono ?_
          rintro e w2 ⟨rfl, hs2, hg2⟩
          go_wp2
          refine bodyPost_ret (results_none rfl _ _ _) rfl ?_
          exact ⟨rfl, grownBy_trans (grownBy_drewN _ _ _) hg2, .inr ⟨hst.out, hs2⟩⟩
      · have td : decide ((zs.length : Int) < (p : Int) + 5) = true := by simp; omega
        have hst : Hid (Pl.lit (zs.drop p) = none) := by
          show _ = _
          rw [hlit.out, Pl.strip]
          simp only [List.length_cons, List.length_nil, Nat.zero_add, Nat.reduceAdd]
          rw [if_neg]
          intro e
          have := congrArg List.length e
          simp at this
          omega
        go_enter Try.func49, Try.ntmps49
        go_wp2
        go_quiet (fail)
        go_wp2
        go_quiet (fail)
        go_wp2
        go_quiet (fail)
        go_wp2_with fail
        refine (fault_any (h.drewN _)).mono ?_
        rintro e w2 ⟨rfl, hs2, hg2⟩
        go_wp2
        refine bodyPost_ret (results_none rfl _ _ _) rfl ?_
        exact ⟨rfl, grownBy_trans (grownBy_drewN _ _ _) hg2, .inr ⟨hst.out, hs2⟩⟩
    rcases beq_cases c 110 with ⟨t3, e110⟩ | ⟨t3, e110⟩
    · have hlit : Hid (Pl.lit (zs.drop p) = Pl.strip [110, 117, 108, 108] (zs.drop p)) := by
        show _ = _
        rw [hdr.out, Pl.lit, if_neg e116.out, if_neg e102.out, if_pos e110.out]
      by_cases he : p + 4 ≤ zs.length
      · have hsl := fun W => run_sl W (some ⟨bd, off, none⟩) zs.length cap (p : Int) ((p : Int) + 4) p (p + 4) rfl (by omega) (by omega) (by omega)
        simp only [slA_some (show p < cap by omega), show p + 4 - p = 4 from by omega] at hsl
        have hconv : ∀ nq, (convert 22 9 (.slice (some ⟨bd, off + p, none⟩) 4 (cap - p))).run Try.prog (w.drewN nq) = .ok (.string (strOfNums ((zs.drop p).take 4))) (w.drewN nq) := by
          intro nq
          refine run_convert_bytes_arg (w.drewN nq) 22 5 Try.underlying22 Try.underlying5 bd (off + p) _ (cap - p) ((zs.drop p).take 4) (by simp; omega) ?_ 9 Try.underlying9
          intro i hi
          have := h.2.cut p (p + 4) he i (by simp; omega)
          obtain ⟨_, _, e, hc'⟩ := this
          cases e
          rw [List.drop_take, show p + 4 - p = 4 from by omega] at hc'
          exact hc'
        have td : decide ((zs.length : Int) < (p : Int) + 4) = false := by simp; omega
        by_cases hw : (zs.drop p).take 4 = [110, 117, 108, 108]
        · have tb : ((strOfNums ((zs.drop p).take 4)).toList == [110, 117, 108, 108]) = true := word_yes hw
          have hst : Hid (Pl.lit (zs.drop p) = some (zs.drop (p + 4))) := by
            show _ = _
            rw [hlit.out, Pl.strip]
            simp only [List.length_cons, List.length_nil, Nat.zero_add, Nat.reduceAdd]
            rw [if_pos hw, List.drop_drop]
          clear hw
          go_enter Try.func49, Try.ntmps49
          go_wp2
          go_quiet (fail)
          go_wp2
          go_quiet (fail)
          go_wp2
          go_quiet (fail)
          go_wp2
          go_end0
          exact ⟨rfl, grownBy_trans (grownBy_drewN _ _ _) (grownBy_setCell _ _ _ _), .inl ⟨p + 4, he, hst.out, (h.drewN _).setPosX (by omega)⟩⟩
        · have tb : ((strOfNums ((zs.drop p).take 4)).toList == [110, 117, 108, 108]) = false := word_no (fun c hc => hby c (List.mem_of_mem_drop (List.mem_of_mem_take hc))) (by simp) hw
          have hst : Hid (Pl.lit (zs.drop p) = none) := by
            show _ = _
            rw [hlit.out, Pl.strip]
            simp only [List.length_cons, List.length_nil, Nat.zero_add, Nat.reduceAdd]
            rw [if_neg hw]
          clear hw
          go_enter Try.func49, Try.ntmps49
          go_wp2
          go_quiet (fail)
          go_wp2
          go_quiet (fail)
          go_wp2
          go_quiet (fail)
          go_wp2_with fail
          refine (fault_any (h.drewN _)).mono ?_
          rintro e w2 ⟨rfl, hs2, hg2⟩
          go_wp2
          refine bodyPost_ret (results_none rfl _ _ _) rfl ?_
          exact ⟨rfl, grownBy_trans (grownBy_drewN _ _ _) hg2, .inr ⟨hst.out, hs2⟩⟩
      · have td : decide ((zs.length : Int) < (p : Int) + 4) = true := by simp; omega
        have hst : Hid (Pl.lit (zs.drop p) = none) := by
          show _ = _
          rw [hlit.out, Pl.strip]
          simp only [List.length_cons, List.length_nil, Nat.zero_add, Nat.reduceAdd]
          rw [if_neg]
          intro e
          have := congrArg List.length e
          simp at this
          omega
        go_enter Try.func49, Try.ntmps49
        go_wp2
        go_quiet (fail)
        go_wp2
        go_quiet (fail)
        go_wp2
        go_quiet (fail)
        go_wp2_with fail
        refine (fault_any (h.drewN _)).mono ?_
        rintro e w2 ⟨rfl, hs2, hg2⟩
        go_wp2
        refine bodyPost_ret (results_none rfl _ _ _) rfl ?_
        exact ⟨rfl, grownBy_trans (grownBy_drewN _ _ _) hg2, .inr ⟨hst.out, hs2⟩⟩
    have hlit : Hid (Pl.lit (zs.drop p) = Pl.num (zs.drop p)) := by
      show _ = _
      rw [hdr.out, Pl.lit, if_neg e116.out, if_neg e102.out, if_neg e110.out]
    go_enter Try.func49, Try.ntmps49
    go_wp2
    go_quiet (fail)
    go_wp2
    go_quiet (fail)
    go_wp2_with fail
    refine (number_any (h.drewN _) hp hn).mono ?_
    rintro e w1 ⟨rfl, hg, hr⟩
    go_wp2
    refine bodyPost_ret (results_none rfl _ _ _) rfl ?_
    refine ⟨rfl, grownBy_trans (grownBy_drewN _ _ _) hg, ?_⟩
    rw [hlit.out]
    exact hr
  · have hge : ¬ (p : Int) < zs.length := by omega
    have hd : Hid (zs.drop p = []) := dropH hlt
    go_enter Try.func49, Try.ntmps49
    go_wp2
    go_quiet (fail)
    go_wp2_with fail
    refine (number_any (h.drewN _) hp hn).mono ?_
    rintro e w1 ⟨rfl, hg, hr⟩
    go_wp2
    refine bodyPost_ret (results_none rfl _ _ _) rfl ?_
    refine ⟨rfl, grownBy_trans (grownBy_drewN _ _ _) hg, ?_⟩
    rw [hd.out] at hr ⊢
    exact hr
end
end Go.Proofs.Qxb6600109a
