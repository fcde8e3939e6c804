-- Written by a program of this session (wip/tools)
import Derived.Test.YtielnphmcaecdaaDoorQRMPAllx5
import Derived.Outline
import Derived.Deep.QuietTactic
import Derived.BigQuiet
import Derived.IntWalk
import Derived.Test.YtielnphmcaecdaaDoorQRMTreeMem
import Derived.Test.YtielnphmcaecdaaDoorQRMExtVisits
import Derived.Test.YtielnphmcaecdaaDoorQRMPAllx8
namespace Go.Proofs.YtielnphmcaecdaaDoor.PAll
open Go.IntWalk Go.RowKit Go.Proofs.YtielnphmcaecdaaDoorW.PrintWords Go.Proofs.YtielnphmcaecdaaDoorW.PrintLast Go.Proofs.YtielnphmcaecdaaDoorW.PrintMore
set_option linter.unusedVariables false
def sameL : List (List Int) → List (List Int) → Bool
  | [], [] => true
  | x :: xs, y :: ys => if ((strOfNums x).toList == (strOfNums y).toList) = true then sameL xs ys else false
  | _, _ => false
theorem sameL_len : ∀ (l m : List (List Int)), l.length ≠ m.length → sameL l m = false
  | [], [], h => absurd rfl h
  | [], _ :: _, _ => rfl
  | _ :: _, [], _ => rfl
  | x :: xs, y :: ys, h => by
    unfold sameL
    split
    · exact sameL_len xs ys (fun e => h (by rw [List.length_cons, List.length_cons, e]))
    · rfl
theorem sameL_self : ∀ (l : List (List Int)), sameL l l = true
  | [] => rfl
  | x :: xs => by unfold sameL; rw [if_pos (by simp)]; exact sameL_self xs
def spec_Same.f (_ : Nat) (l m : List (List Int)) : Option Bool := some (sameL l m)
theorem spec_Same.mono : ∀ l m k, LeO (spec_Same.f k l m) (spec_Same.f (k + 1) l m) := fun _ _ _ => LeO.refl _
theorem sameL_cons (x y : List Int) (xs ys : List (List Int)) : sameL (x :: xs) (y :: ys) = if ((strOfNums x).toList == (strOfNums y).toList) = true then sameL xs ys else false := rfl
theorem dropRd {l : List (List Int)} {i : Nat} (h : i < l.length) : l.drop i = rd_L1 l (i : Int) :: l.drop (i + 1) := by
  rw [List.drop_eq_getElem_cons h]
  congr 1
  show _ = l.getD i []
  rw [List.getD_eq_getElem?_getD, List.getElem?_eq_getElem h]; rfl
set_option maxHeartbeats 4000000 in
set_option maxRecDepth 100000 in
theorem spec_Same.calls (k : Nat) (A0 : Option Addr) (c0 : Nat) (l : List (List Int)) (A1 : Option Addr) (c1 : Nat) (m : List (List Int)) (r : Bool) (w : World) (hr0 : Kd.C (Kd.slice 5 (Kd.int .u8)) w A0 l.length l) (hc0 : l.length ≤ c0) (hr1 : Kd.C (Kd.slice 5 (Kd.int .u8)) w A1 m.length m) (hc1 : m.length ≤ c1) (h : spec_Same.f k l m = some r) :
    Calls Tryd.prog 29 #[.slice A0 l.length c0, .slice A1 m.length c1] w fun e w' => e = .returned (.bool r) ∧ Drawn0 w w' := by
  obtain rfl : sameL l m = r := Option.some.inj h
  clear h
  by_cases h0 : l.length = m.length
  · have b0 : ((l.length : Int) != (m.length : Int)) = false := bne_eq_false_iff_eq.mpr (by omega)
    have b1 : (l.length != m.length) = false := bne_eq_false_iff_eq.mpr h0
    have HL := Aside0.mk hr0.2.1
    have HR := Aside0.mk hr0
    have HC := Aside0.mk hc0
    have HR' := Aside0.mk hr1
    have HC' := Aside0.mk hc1
    have H0 := Aside0.mk h0
    clear hr0 hc0 hr1 hc1 h0
    go_enter Tryd.func29, Tryd.ntmps29
    go_wp2
    try simp only [Act.put, List.setIfInBounds_toArray, List.set_cons_zero, List.set_cons_succ]
    go_loopg [13] l.length (fun kq v13 w' => ∃ i : Nat, v13 = .int .i64 (i : Int) ∧ Aside0 (i + kq = l.length) ∧ Aside0 (sameL (l.drop i) (m.drop i) = sameL l m) ∧ Drawn0 w w')
    case atStart => exact ⟨0, rfl, ⟨by omega⟩, ⟨by rw [List.drop_zero, List.drop_zero]⟩, by repeat (first | exact Drawn0.refl _ | apply Drawn0.step)⟩
    case round =>
      obtain ⟨i, rfl, HI, HJ, ⟨m1, rfl⟩⟩ := hrel
      cases gk with
      | zero =>
        have ei : i = l.length := by have := HI.out; omega
        subst ei
        have hj := HJ.out
        rw [List.drop_of_length_le (Nat.le_refl _), List.drop_of_length_le (by have := H0.out; omega)] at hj
        have HJ2 := Aside0.mk (show true = sameL l m from hj)
        clear hj
        go_wp2
        go_ret
        exact ⟨by rw [← HJ2.out]; rfl, by repeat (first | exact Drawn0.refl _ | apply Drawn0.step)⟩
      | succ k1 =>
        have hi : i < l.length := by have := HI.out; omega
        have hi' : i < m.length := by have := HI.out; have := H0.out; omega
        have d1 : decide (i < l.length) = true := decide_eq_true hi
        have d2 : decide ((i : Int) < (l.length : Int)) = true := decide_eq_true (by omega)
        have d3 : decide (i < m.length) = true := decide_eq_true hi'
        have d4 : decide ((i : Int) < (m.length : Int)) = true := decide_eq_true (by omega)
        have d5 : (i : Int) < (l.length : Int) := by omega
        have d6 : (i : Int) < (m.length : Int) := by omega
        have d7 : 0 ≤ (i : Int) := by omega
        have hj := HJ.out
        rw [dropRd hi, dropRd hi'] at hj
        obtain ⟨ad, A1, e1, q1, hx1, hl1, hi1⟩ := at_L1 HR.out (i : Int) (by omega) (by omega)
        cases q1
        obtain ⟨ad2, A2, e2, q2, hx2, hl2, hi2⟩ := at_L1 HR'.out (i : Int) (by omega) (by omega)
        cases q2
        have hx1' : w.cell? (ad.add i) = some (.slice A1 (rd_L1 l (i : Int)).length e1) := hx1
        have hx2' : w.cell? (ad2.add i) = some (.slice A2 (rd_L1 m (i : Int)).length e2) := hx2
        have hcv3 := fun m => Kd.C_string (P := Tryd.prog) (A := A1) (c := e1) Tryd.underlying27 Tryd.underlying5 Tryd.underlying9 (Kd.C_drewN hi1 m)
        have hcv4 := fun m => Kd.C_string (P := Tryd.prog) (A := A2) (c := e2) Tryd.underlying27 Tryd.underlying5 Tryd.underlying9 (Kd.C_drewN hi2 m)
        have hcv5 := fun m n => Kd.C_string (P := Tryd.prog) (A := A1) (c := e1) Tryd.underlying27 Tryd.underlying5 Tryd.underlying9 (Kd.C_drewN (Kd.C_drewN hi1 m) n)
        have hcv6 := fun m n => Kd.C_string (P := Tryd.prog) (A := A2) (c := e2) Tryd.underlying27 Tryd.underlying5 Tryd.underlying9 (Kd.C_drewN (Kd.C_drewN hi2 m) n)
        generalize rd_L1 l (i : Int) = x at *
        generalize rd_L1 m (i : Int) = y at *
        have hmx : l.length ≤ 9223372036854775807 := HL.out
        clear hx1 hx2
        by_cases hxy : ((strOfNums x).toList == (strOfNums y).toList) = true
        · have HJ2 : sameL (l.drop (i + 1)) (m.drop (i + 1)) = sameL l m := by
            rw [← hj, sameL_cons, if_pos hxy]
          have b9 : ((strOfNums x).toList != (strOfNums y).toList) = false := by unfold bne; rw [hxy]; rfl
          have HJ3 := Aside0.mk HJ2
          clear hj HJ2 hi hi'
          go_wp2_with (fail)
          go_quiet (fail)
          go_wp2
          go_roundg k1
          case measure => omega
          case rel => exact ⟨i + 1, by first | rfl | (congr 1), ⟨by have := HI.out; omega⟩, HJ3, by repeat (first | exact Drawn0.refl _ | apply Drawn0.step | exact ⟨⟨_, rfl⟩⟩)⟩
        · have HJ2 : sameL l m = false := by
            rw [← hj, sameL_cons, if_neg hxy]
          have b9 : ((strOfNums x).toList != (strOfNums y).toList) = true := by unfold bne; rw [Bool.eq_false_iff.mpr hxy]; rfl
          have HJ3 := Aside0.mk HJ2
          clear hj HJ2 hi hi'
          go_wp2_with (fail)
          go_quiet (fail)
          go_wp2
          go_ret
          exact ⟨by rw [HJ3.out]; rfl, by repeat (first | exact Drawn0.refl _ | apply Drawn0.step | exact ⟨⟨_, rfl⟩⟩)⟩
  · have hf := sameL_len l m h0
    have b0 : ((l.length : Int) != (m.length : Int)) = true := bne_iff_ne.mpr (by omega)
    have b1 : (l.length != m.length) = true := bne_iff_ne.mpr h0
    have HF := Aside0.mk hf
    clear hf hr0 hr1 h0
    go_enter Tryd.func29, Tryd.ntmps29
    go_wp2
    go_ret
    exact ⟨by rw [HF.out]; rfl, by repeat (first | exact Drawn0.refl _ | apply Drawn0.step)⟩
end Go.Proofs.YtielnphmcaecdaaDoor.PAll
namespace Go.Proofs.YtielnphmcaecdaaDoor.PAll
open Go.RowKit Go.Proofs.YtielnphmcaecdaaDoorW.PrintWords Go.Proofs.YtielnphmcaecdaaDoorW.PrintLast Go.Proofs.YtielnphmcaecdaaDoorW.PrintMore
attribute [local go_sem] max2_int min2_int max_two min_two max_three min_three max_four min_four   -- for this text's walks alone
set_option linter.unusedVariables false
set_option linter.unusedSimpArgs false
attribute [local go_sem high] eqA49
def spec_SameRange.f (k : Nat) (a0_0 : Int) (a0_1 : Int) (l0_2 : List (List Int)) (a1_0 : Int) (a1_1 : Int) (l1_2 : List (List Int)) : Option (Bool) := if a0_0 = a1_0 then (if a0_1 = a1_1 then ((spec_Same.f k l0_2 l1_2).bind fun t325 => (some t325)) else (some false)) else (some false)
theorem spec_SameRange.mono : ∀ a0 a1 a2 a3 a4 a5 k, LeO (spec_SameRange.f k a0 a1 a2 a3 a4 a5) (spec_SameRange.f (k + 1) a0 a1 a2 a3 a4 a5) := by
  intro a0 a1 a2 a3 a4 a5 k
  unfold spec_SameRange.f
  repeat' first
      | (with_reducible exact spec_Same.mono _ _ _)
      | (with_reducible exact LeO.refl _)
      | (with_reducible exact LeO.none _)
      | (with_reducible refine LeO.ite ?_ ?_)
      | (with_reducible refine LeO.bind ?_ (fun _ => ?_))
      | exact spec_Same.mono _ _ _
      | exact LeO.none _
      | refine LeO.ite ?_ ?_
      | refine LeO.bind ?_ (fun _ => ?_)
set_option maxHeartbeats 8000000 in
set_option maxRecDepth 100000 in
theorem spec_SameRange.calls (k : Nat) (a0_0 : Int) (a0_1 : Int) (A0_2 : Option Addr) (c0_2 : Nat) (l0_2 : List (List Int)) (a1_0 : Int) (a1_1 : Int) (A1_2 : Option Addr) (c1_2 : Nat) (l1_2 : List (List Int)) (r : Bool) (w : World) (hr0_2 : Kd.C (Kd.slice 5 (Kd.int .u8)) w A0_2 l0_2.length l0_2) (hc0_2 : l0_2.length ≤ c0_2) (hr1_2 : Kd.C (Kd.slice 5 (Kd.int .u8)) w A1_2 l1_2.length l1_2) (hc1_2 : l1_2.length ≤ c1_2) (h : spec_SameRange.f k a0_0 a0_1 l0_2 a1_0 a1_1 l1_2 = some r) :
    Calls Tryd.prog 21 #[.agg #[.int .u64 a0_0, .int .u64 a0_1, .slice A0_2 l0_2.length c0_2], .agg #[.int .u64 a1_0, .int .u64 a1_1, .slice A1_2 l1_2.length c1_2]] w fun e w' => e = .returned (.bool r) ∧ Below w.heap.size w w' := by
  have hu34 := Tryd.underlying34
  have HR0_2 := Aside0.mk hr0_2
  have HC0_2 := Aside0.mk hc0_2
  clear hr0_2 hc0_2
  have HR1_2 := Aside0.mk hr1_2
  have HC1_2 := Aside0.mk hc1_2
  clear hr1_2 hc1_2
  have HB := Aside0.mk (Below.refl w.heap.size w)
  have H : (if a0_0 = a1_0 then (if a0_1 = a1_1 then ((spec_Same.f k l0_2 l1_2).bind fun t325 => (some t325)) else (some false)) else (some false)) = some r := h
  clear h
  by_cases c3 : a0_0 = a1_0
  · rw [if_pos c3] at H
    have c3b0 : (a0_0 == a1_0) = true := beq_iff_eq.mpr c3
    have c3b1 : (a0_0 != a1_0) = false := bne_eq_false_iff_eq.mpr c3
    clear c3
    by_cases c4 : a0_1 = a1_1
    · rw [if_pos c4] at H
      have c4b0 : (a0_1 == a1_1) = true := beq_iff_eq.mpr c4
      have c4b1 : (a0_1 != a1_1) = false := bne_eq_false_iff_eq.mpr c4
      clear c4
      replace H := Option.bind_eq_some_iff.mp H
      obtain ⟨t325, A50, H⟩ := H
      replace H : (some t325) = some r := H
      have A5 := Aside0.mk A50
      clear A50
      obtain rfl := Option.some.inj H
      go_enter Tryd.func21, Tryd.ntmps21
      go_wp2_with (first | ((with_reducible refine gate_dst (N := 2) rfl ?_); refine box_event ?hg (N := 2) ?hd (cs := #[.int .u64 a0_0, .int .u64 a0_1, .slice A0_2 l0_2.length c0_2]) (t := 34) ?hr ?_; (case hd => rfl); (case hg => rfl); (case hr => first | (go_simp; done) | (go_simp; rfl)); intro gb323 hg w6 hbox hb; have n0_ := Aside0.mk (below_step (by repeat (first | (with_reducible first | exact HB.out | apply below_alloc | apply pw_below_drewN | apply below_drew1) | exact HB.out)) hb); have n1_ := Aside0.mk (hbox); have n2_ := Aside0.mk ((by rw [hg]; exact (below_size (by repeat (first | (with_reducible first | exact HB.out | apply below_alloc | apply pw_below_drewN | apply below_drew1) | exact HB.out))) : w.heap.size ≤ gb323)); have n3_ := Aside0.mk ((by rw [hg]; exact (below_size (by repeat (first | (with_reducible first | exact HB.out | apply below_alloc | apply pw_below_drewN | apply below_drew1) | exact HB.out))) : w.heap.size ≤ gb323)); clear HB; have HB := n0_; have BK323 := n1_; have GW323 := n2_; have GE323 := n3_; clear n0_ n1_ n2_ n3_; clear hb hbox hg) | ((with_reducible refine gate_dst (N := 3) rfl ?_); refine box_event ?hg (N := 3) ?hd (cs := #[.int .u64 a1_0, .int .u64 a1_1, .slice A1_2 l1_2.length c1_2]) (t := 34) ?hr ?_; (case hd => rfl); (case hg => rfl); (case hr => first | (go_simp; done) | (go_simp; rfl)); intro gb324 hg w7 hbox hb; have n0_ := Aside0.mk (blk_below (g := gb323) (o := .cells #[.int .u64 a0_0, .int .u64 a0_1, .slice A0_2 l0_2.length c0_2] 34 (0, 0)) (by (with_reducible repeat (first | refine blk_drewN ?_ _ | refine blk_drew ?_ | refine blk_alloc ?_ _)); exact BK323.out) hb); have n1_ := Aside0.mk (below_step (by repeat (first | (with_reducible first | exact HB.out | apply below_alloc | apply pw_below_drewN | apply below_drew1 | refine below_set ?_ GE323.out) | exact HB.out)) hb); have n2_ := Aside0.mk (hbox); have n3_ := Aside0.mk ((by rw [hg]; exact (below_size (by repeat (first | (with_reducible first | exact HB.out | apply below_alloc | apply pw_below_drewN | apply below_drew1 | refine below_set ?_ GE323.out) | exact HB.out))) : w.heap.size ≤ gb324)); have n4_ := Aside0.mk ((by rw [hg]; exact (below_size (by repeat (first | (with_reducible first | exact HB.out | apply below_alloc | apply pw_below_drewN | apply below_drew1 | refine below_set ?_ GE323.out) | exact HB.out))) : w.heap.size ≤ gb324)); have n5_ := Aside0.mk ((by rw [hg]; exact Nat.ne_of_lt (blk_lt (g := gb323) (o := .cells #[.int .u64 a0_0, .int .u64 a0_1, .slice A0_2 l0_2.length c0_2] 34 (0, 0)) (by (with_reducible repeat (first | refine blk_drewN ?_ _ | refine blk_drew ?_ | refine blk_alloc ?_ _)); exact BK323.out)) : gb323 ≠ gb324)); have n6_ := Aside0.mk ((by rw [hg]; exact Nat.ne_of_gt (blk_lt (g := gb323) (o := .cells #[.int .u64 a0_0, .int .u64 a0_1, .slice A0_2 l0_2.length c0_2] 34 (0, 0)) (by (with_reducible repeat (first | refine blk_drewN ?_ _ | refine blk_drew ?_ | refine blk_alloc ?_ _)); exact BK323.out)) : gb324 ≠ gb323)); clear BK323; clear HB; have BK323 := n0_; have HB := n1_; have BK324 := n2_; have GW324 := n3_; have GE324 := n4_; have NB323_324 := n5_; have NB324_323 := n6_; clear n0_ n1_ n2_ n3_ n4_ n5_ n6_; clear hb hbox hg; have hnb8 := NB323_324.out; have hnc8 := NB324_323.out; have hcz9_0 : w7.cell? ⟨gb323, 0, none⟩ = some (.int .u64 a0_0) := (blk_cell BK323.out 0).trans rfl; have hcz9_1 : w7.cell? ⟨gb323, 1, none⟩ = some (.int .u64 a0_1) := (blk_cell BK323.out 1).trans rfl; have hcz9_2 : w7.cell? ⟨gb323, 2, none⟩ = some (.slice A0_2 l0_2.length c0_2) := (blk_cell BK323.out 2).trans rfl; have hfz9_0 := blk_frozen BK323.out 0; have hfz9_1 := blk_frozen BK323.out 1; have hfz9_2 := blk_frozen BK323.out 2; have hcz10_0 : w7.cell? ⟨gb324, 0, none⟩ = some (.int .u64 a1_0) := (blk_cell BK324.out 0).trans rfl; have hcz10_1 : w7.cell? ⟨gb324, 1, none⟩ = some (.int .u64 a1_1) := (blk_cell BK324.out 1).trans rfl; have hcz10_2 : w7.cell? ⟨gb324, 2, none⟩ = some (.slice A1_2 l1_2.length c1_2) := (blk_cell BK324.out 2).trans rfl; have hfz10_0 := blk_frozen BK324.out 0; have hfz10_1 := blk_frozen BK324.out 1; have hfz10_2 := blk_frozen BK324.out 2) | (go_at_call 29; (with_reducible refine (spec_Same.calls k _ _ l0_2 _ _ l1_2 t325 _ ?side1 ?side2 ?side3 ?side4 A5.out).mono ?_); (case side1 => repeat (first | exact (Kd.C_below HR0_2.out HB.out) | (with_reducible refine Kd.C_alloc ?_ _) | (with_reducible refine Kd.C_drewN ?_ _) | (with_reducible refine Kd.C_drew ?_))); (case side2 => exact HC0_2.out); (case side3 => repeat (first | exact (Kd.C_below HR1_2.out HB.out) | (with_reducible refine Kd.C_alloc ?_ _) | (with_reducible refine Kd.C_drewN ?_ _) | (with_reducible refine Kd.C_drew ?_))); (case side4 => exact HC1_2.out); rintro e w' ⟨rfl, ⟨nd, rfl⟩⟩))
      go_ret
      exact ⟨by first | rfl | (simp [errW_none, errW_some] <;> rfl) | (simp [*, errW_none, errW_some] <;> rfl), by repeat (first | (with_reducible first | exact HB.out | apply below_alloc | apply pw_below_drewN | apply below_drew1 | refine below_set ?_ GE323.out | refine below_set ?_ GE324.out) | exact HB.out)⟩
    · rw [if_neg c4] at H
      have c4b0 : (a0_1 == a1_1) = false := beq_eq_false_iff_ne.mpr c4
      have c4b1 : (a0_1 != a1_1) = true := bne_iff_ne.mpr c4
      obtain rfl := Option.some.inj H
      go_enter Tryd.func21, Tryd.ntmps21
      go_wp2_with (first | ((with_reducible refine gate_dst (N := 2) rfl ?_); refine box_event ?hg (N := 2) ?hd (cs := #[.int .u64 a0_0, .int .u64 a0_1, .slice A0_2 l0_2.length c0_2]) (t := 34) ?hr ?_; (case hd => rfl); (case hg => rfl); (case hr => first | (go_simp; done) | (go_simp; rfl)); intro gb323 hg w11 hbox hb; have n0_ := Aside0.mk (below_step (by repeat (first | (with_reducible first | exact HB.out | apply below_alloc | apply pw_below_drewN | apply below_drew1) | exact HB.out)) hb); have n1_ := Aside0.mk (hbox); have n2_ := Aside0.mk ((by rw [hg]; exact (below_size (by repeat (first | (with_reducible first | exact HB.out | apply below_alloc | apply pw_below_drewN | apply below_drew1) | exact HB.out))) : w.heap.size ≤ gb323)); have n3_ := Aside0.mk ((by rw [hg]; exact (below_size (by repeat (first | (with_reducible first | exact HB.out | apply below_alloc | apply pw_below_drewN | apply below_drew1) | exact HB.out))) : w.heap.size ≤ gb323)); clear HB; have HB := n0_; have BK323 := n1_; have GW323 := n2_; have GE323 := n3_; clear n0_ n1_ n2_ n3_; clear hb hbox hg) | ((with_reducible refine gate_dst (N := 3) rfl ?_); refine box_event ?hg (N := 3) ?hd (cs := #[.int .u64 a1_0, .int .u64 a1_1, .slice A1_2 l1_2.length c1_2]) (t := 34) ?hr ?_; (case hd => rfl); (case hg => rfl); (case hr => first | (go_simp; done) | (go_simp; rfl)); intro gb324 hg w12 hbox hb; have n0_ := Aside0.mk (blk_below (g := gb323) (o := .cells #[.int .u64 a0_0, .int .u64 a0_1, .slice A0_2 l0_2.length c0_2] 34 (0, 0)) (by (with_reducible repeat (first | refine blk_drewN ?_ _ | refine blk_drew ?_ | refine blk_alloc ?_ _)); exact BK323.out) hb); have n1_ := Aside0.mk (below_step (by repeat (first | (with_reducible first | exact HB.out | apply below_alloc | apply pw_below_drewN | apply below_drew1 | refine below_set ?_ GE323.out) | exact HB.out)) hb); have n2_ := Aside0.mk (hbox); have n3_ := Aside0.mk ((by rw [hg]; exact (below_size (by repeat (first | (with_reducible first | exact HB.out | apply below_alloc | apply pw_below_drewN | apply below_drew1 | refine below_set ?_ GE323.out) | exact HB.out))) : w.heap.size ≤ gb324)); have n4_ := Aside0.mk ((by rw [hg]; exact (below_size (by repeat (first | (with_reducible first | exact HB.out | apply below_alloc | apply pw_below_drewN | apply below_drew1 | refine below_set ?_ GE323.out) | exact HB.out))) : w.heap.size ≤ gb324)); have n5_ := Aside0.mk ((by rw [hg]; exact Nat.ne_of_lt (blk_lt (g := gb323) (o := .cells #[.int .u64 a0_0, .int .u64 a0_1, .slice A0_2 l0_2.length c0_2] 34 (0, 0)) (by (with_reducible repeat (first | refine blk_drewN ?_ _ | refine blk_drew ?_ | refine blk_alloc ?_ _)); exact BK323.out)) : gb323 ≠ gb324)); have n6_ := Aside0.mk ((by rw [hg]; exact Nat.ne_of_gt (blk_lt (g := gb323) (o := .cells #[.int .u64 a0_0, .int .u64 a0_1, .slice A0_2 l0_2.length c0_2] 34 (0, 0)) (by (with_reducible repeat (first | refine blk_drewN ?_ _ | refine blk_drew ?_ | refine blk_alloc ?_ _)); exact BK323.out)) : gb324 ≠ gb323)); clear BK323; clear HB; have BK323 := n0_; have HB := n1_; have BK324 := n2_; have GW324 := n3_; have GE324 := n4_; have NB323_324 := n5_; have NB324_323 := n6_; clear n0_ n1_ n2_ n3_ n4_ n5_ n6_; clear hb hbox hg; have hnb13 := NB323_324.out; have hnc13 := NB324_323.out; have hcz14_0 : w12.cell? ⟨gb323, 0, none⟩ = some (.int .u64 a0_0) := (blk_cell BK323.out 0).trans rfl; have hcz14_1 : w12.cell? ⟨gb323, 1, none⟩ = some (.int .u64 a0_1) := (blk_cell BK323.out 1).trans rfl; have hcz14_2 : w12.cell? ⟨gb323, 2, none⟩ = some (.slice A0_2 l0_2.length c0_2) := (blk_cell BK323.out 2).trans rfl; have hfz14_0 := blk_frozen BK323.out 0; have hfz14_1 := blk_frozen BK323.out 1; have hfz14_2 := blk_frozen BK323.out 2; have hcz15_0 : w12.cell? ⟨gb324, 0, none⟩ = some (.int .u64 a1_0) := (blk_cell BK324.out 0).trans rfl; have hcz15_1 : w12.cell? ⟨gb324, 1, none⟩ = some (.int .u64 a1_1) := (blk_cell BK324.out 1).trans rfl; have hcz15_2 : w12.cell? ⟨gb324, 2, none⟩ = some (.slice A1_2 l1_2.length c1_2) := (blk_cell BK324.out 2).trans rfl; have hfz15_0 := blk_frozen BK324.out 0; have hfz15_1 := blk_frozen BK324.out 1; have hfz15_2 := blk_frozen BK324.out 2))
      go_ret
      exact ⟨by first | rfl | (simp [errW_none, errW_some] <;> rfl) | (simp [*, errW_none, errW_some] <;> rfl), by repeat (first | (with_reducible first | exact HB.out | apply below_alloc | apply pw_below_drewN | apply below_drew1 | refine below_set ?_ GE323.out | refine below_set ?_ GE324.out) | exact HB.out)⟩
  · rw [if_neg c3] at H
    have c3b0 : (a0_0 == a1_0) = false := beq_eq_false_iff_ne.mpr c3
    have c3b1 : (a0_0 != a1_0) = true := bne_iff_ne.mpr c3
    obtain rfl := Option.some.inj H
    go_enter Tryd.func21, Tryd.ntmps21
    go_wp2_with (first | ((with_reducible refine gate_dst (N := 2) rfl ?_); refine box_event ?hg (N := 2) ?hd (cs := #[.int .u64 a0_0, .int .u64 a0_1, .slice A0_2 l0_2.length c0_2]) (t := 34) ?hr ?_; (case hd => rfl); (case hg => rfl); (case hr => first | (go_simp; done) | (go_simp; rfl)); intro gb323 hg w16 hbox hb; have n0_ := Aside0.mk (below_step (by repeat (first | (with_reducible first | exact HB.out | apply below_alloc | apply pw_below_drewN | apply below_drew1) | exact HB.out)) hb); have n1_ := Aside0.mk (hbox); have n2_ := Aside0.mk ((by rw [hg]; exact (below_size (by repeat (first | (with_reducible first | exact HB.out | apply below_alloc | apply pw_below_drewN | apply below_drew1) | exact HB.out))) : w.heap.size ≤ gb323)); have n3_ := Aside0.mk ((by rw [hg]; exact (below_size (by repeat (first | (with_reducible first | exact HB.out | apply below_alloc | apply pw_below_drewN | apply below_drew1) | exact HB.out))) : w.heap.size ≤ gb323)); clear HB; have HB := n0_; have BK323 := n1_; have GW323 := n2_; have GE323 := n3_; clear n0_ n1_ n2_ n3_; clear hb hbox hg) | ((with_reducible refine gate_dst (N := 3) rfl ?_); refine box_event ?hg (N := 3) ?hd (cs := #[.int .u64 a1_0, .int .u64 a1_1, .slice A1_2 l1_2.length c1_2]) (t := 34) ?hr ?_; (case hd => rfl); (case hg => rfl); (case hr => first | (go_simp; done) | (go_simp; rfl)); intro gb324 hg w17 hbox hb; have n0_ := Aside0.mk (blk_below (g := gb323) (o := .cells #[.int .u64 a0_0, .int .u64 a0_1, .slice A0_2 l0_2.length c0_2] 34 (0, 0)) (by (with_reducible repeat (first | refine blk_drewN ?_ _ | refine blk_drew ?_ | refine blk_alloc ?_ _)); exact BK323.out) hb); have n1_ := Aside0.mk (below_step (by repeat (first | (with_reducible first | exact HB.out | apply below_alloc | apply pw_below_drewN | apply below_drew1 | refine below_set ?_ GE323.out) | exact HB.out)) hb); have n2_ := Aside0.mk (hbox); have n3_ := Aside0.mk ((by rw [hg]; exact (below_size (by repeat (first | (with_reducible first | exact HB.out | apply below_alloc | apply pw_below_drewN | apply below_drew1 | refine below_set ?_ GE323.out) | exact HB.out))) : w.heap.size ≤ gb324)); have n4_ := Aside0.mk ((by rw [hg]; exact (below_size (by repeat (first | (with_reducible first | exact HB.out | apply below_alloc | apply pw_below_drewN | apply below_drew1 | refine below_set ?_ GE323.out) | exact HB.out))) : w.heap.size ≤ gb324)); have n5_ := Aside0.mk ((by rw [hg]; exact Nat.ne_of_lt (blk_lt (g := gb323) (o := .cells #[.int .u64 a0_0, .int .u64 a0_1, .slice A0_2 l0_2.length c0_2] 34 (0, 0)) (by (with_reducible repeat (first | refine blk_drewN ?_ _ | refine blk_drew ?_ | refine blk_alloc ?_ _)); exact BK323.out)) : gb323 ≠ gb324)); have n6_ := Aside0.mk ((by rw [hg]; exact Nat.ne_of_gt (blk_lt (g := gb323) (o := .cells #[.int .u64 a0_0, .int .u64 a0_1, .slice A0_2 l0_2.length c0_2] 34 (0, 0)) (by (with_reducible repeat (first | refine blk_drewN ?_ _ | refine blk_drew ?_ | refine blk_alloc ?_ _)); exact BK323.out)) : gb324 ≠ gb323)); clear BK323; clear HB; have BK323 := n0_; have HB := n1_; have BK324 := n2_; have GW324 := n3_; have GE324 := n4_; have NB323_324 := n5_; have NB324_323 := n6_; clear n0_ n1_ n2_ n3_ n4_ n5_ n6_; clear hb hbox hg; have hnb18 := NB323_324.out; have hnc18 := NB324_323.out; have hcz19_0 : w17.cell? ⟨gb323, 0, none⟩ = some (.int .u64 a0_0) := (blk_cell BK323.out 0).trans rfl; have hcz19_1 : w17.cell? ⟨gb323, 1, none⟩ = some (.int .u64 a0_1) := (blk_cell BK323.out 1).trans rfl; have hcz19_2 : w17.cell? ⟨gb323, 2, none⟩ = some (.slice A0_2 l0_2.length c0_2) := (blk_cell BK323.out 2).trans rfl; have hfz19_0 := blk_frozen BK323.out 0; have hfz19_1 := blk_frozen BK323.out 1; have hfz19_2 := blk_frozen BK323.out 2; have hcz20_0 : w17.cell? ⟨gb324, 0, none⟩ = some (.int .u64 a1_0) := (blk_cell BK324.out 0).trans rfl; have hcz20_1 : w17.cell? ⟨gb324, 1, none⟩ = some (.int .u64 a1_1) := (blk_cell BK324.out 1).trans rfl; have hcz20_2 : w17.cell? ⟨gb324, 2, none⟩ = some (.slice A1_2 l1_2.length c1_2) := (blk_cell BK324.out 2).trans rfl; have hfz20_0 := blk_frozen BK324.out 0; have hfz20_1 := blk_frozen BK324.out 1; have hfz20_2 := blk_frozen BK324.out 2))
    go_ret
    exact ⟨by first | rfl | (simp [errW_none, errW_some] <;> rfl) | (simp [*, errW_none, errW_some] <;> rfl), by repeat (first | (with_reducible first | exact HB.out | apply below_alloc | apply pw_below_drewN | apply below_drew1 | refine below_set ?_ GE323.out | refine below_set ?_ GE324.out) | exact HB.out)⟩
def spec_Leaves.f (a0_0 : Int) (a0_1 : Int) : Option (Int × Int) := if 0 ≤ a0_0 then (some (shl .u64 a0_1 a0_0, shl .u64 (IntKind.u64.wrap (a0_1 + 1)) a0_0)) else (none)
end Go.Proofs.YtielnphmcaecdaaDoor.PAll
namespace Go.Proofs.YtielnphmcaecdaaDoor.PAll
open Go.RowKit Go.Proofs.YtielnphmcaecdaaDoorW.PrintWords Go.Proofs.YtielnphmcaecdaaDoorW.PrintLast Go.Proofs.YtielnphmcaecdaaDoorW.PrintMore
attribute [local go_sem] max2_int min2_int max_two min_two max_three min_three max_four min_four   -- for this text's walks alone
set_option linter.unusedVariables false
set_option linter.unusedSimpArgs false
def laws_rangeFair.f (k : Nat) (a0_0 : Int) (a0_1 : Int) (l0_2 : List (List Int)) : Option (Bool) := (spec_ProperRange.f k a0_0 a0_1 l0_2).bind fun t321 => (if t321 = true then ((laws_logSmall.f k l0_2).bind fun t322 => (some t322)) else (some false))
theorem laws_rangeFair.mono : ∀ a0 a1 a2 k, LeO (laws_rangeFair.f k a0 a1 a2) (laws_rangeFair.f (k + 1) a0 a1 a2) := by
  intro a0 a1 a2 k
  unfold laws_rangeFair.f
  repeat' first
      | (with_reducible exact laws_logSmall.mono _ _)
      | (with_reducible exact spec_ProperRange.mono _ _ _ _)
      | (with_reducible exact LeO.refl _)
      | (with_reducible exact LeO.none _)
      | (with_reducible refine LeO.ite ?_ ?_)
      | (with_reducible refine LeO.bind ?_ (fun _ => ?_))
      | exact laws_logSmall.mono _ _
      | exact spec_ProperRange.mono _ _ _ _
      | exact LeO.none _
      | refine LeO.ite ?_ ?_
      | refine LeO.bind ?_ (fun _ => ?_)
set_option maxHeartbeats 8000000 in
set_option maxRecDepth 100000 in
theorem laws_rangeFair.calls (k : Nat) (a0_0 : Int) (a0_1 : Int) (A0_2 : Option Addr) (c0_2 : Nat) (l0_2 : List (List Int)) (r : Bool) (w : World) (hr0_2 : Kd.C (Kd.slice 5 (Kd.int .u8)) w A0_2 l0_2.length l0_2) (hc0_2 : l0_2.length ≤ c0_2) (h : laws_rangeFair.f k a0_0 a0_1 l0_2 = some r) :
    Calls Tryd.prog 18 #[.agg #[.int .u64 a0_0, .int .u64 a0_1, .slice A0_2 l0_2.length c0_2]] w fun e w' => e = .returned (.bool r) ∧ Below w.heap.size w w' := by
  have hu34 := Tryd.underlying34
  have HR0_2 := Aside0.mk hr0_2
  have HC0_2 := Aside0.mk hc0_2
  clear hr0_2 hc0_2
  have HB := Aside0.mk (Below.refl w.heap.size w)
  have H : ((spec_ProperRange.f k a0_0 a0_1 l0_2).bind fun t321 => (if t321 = true then ((laws_logSmall.f k l0_2).bind fun t322 => (some t322)) else (some false))) = some r := h
  clear h
  replace H := Option.bind_eq_some_iff.mp H
  obtain ⟨t321, A20, H⟩ := H
  replace H : (if t321 = true then ((laws_logSmall.f k l0_2).bind fun t322 => (some t322)) else (some false)) = some r := H
  have A2 := Aside0.mk A20
  clear A20
  by_cases c3 : t321 = true
  · subst c3
    have H1 : ((laws_logSmall.f k l0_2).bind fun t322 => (some t322)) = some r := by rw [if_pos rfl] at H; exact H
    clear H
    have H := H1
    clear H1
    replace H := Option.bind_eq_some_iff.mp H
    obtain ⟨t322, A40, H⟩ := H
    replace H : (some t322) = some r := H
    have A4 := Aside0.mk A40
    clear A40
    obtain rfl := Option.some.inj H
    go_enter Tryd.func18, Tryd.ntmps18
    go_wp2_with (first | ((with_reducible refine gate_dst (N := 1) rfl ?_); refine box_event ?hg (N := 1) ?hd (cs := #[.int .u64 a0_0, .int .u64 a0_1, .slice A0_2 l0_2.length c0_2]) (t := 34) ?hr ?_; (case hd => rfl); (case hg => rfl); (case hr => first | (go_simp; done) | (go_simp; rfl)); intro gb320 hg w5 hbox hb; have n0_ := Aside0.mk (below_step (by repeat (first | (with_reducible first | exact HB.out | apply below_alloc | apply pw_below_drewN | apply below_drew1) | exact HB.out)) hb); have n1_ := Aside0.mk (hbox); have n2_ := Aside0.mk ((by rw [hg]; exact (below_size (by repeat (first | (with_reducible first | exact HB.out | apply below_alloc | apply pw_below_drewN | apply below_drew1) | exact HB.out))) : w.heap.size ≤ gb320)); have n3_ := Aside0.mk ((by rw [hg]; exact (below_size (by repeat (first | (with_reducible first | exact HB.out | apply below_alloc | apply pw_below_drewN | apply below_drew1) | exact HB.out))) : w.heap.size ≤ gb320)); clear HB; have HB := n0_; have BK320 := n1_; have GW320 := n2_; have GE320 := n3_; clear n0_ n1_ n2_ n3_; clear hb hbox hg; have hcz6_0 : w5.cell? ⟨gb320, 0, none⟩ = some (.int .u64 a0_0) := (blk_cell BK320.out 0).trans rfl; have hcz6_1 : w5.cell? ⟨gb320, 1, none⟩ = some (.int .u64 a0_1) := (blk_cell BK320.out 1).trans rfl; have hcz6_2 : w5.cell? ⟨gb320, 2, none⟩ = some (.slice A0_2 l0_2.length c0_2) := (blk_cell BK320.out 2).trans rfl; have hfz6_0 := blk_frozen BK320.out 0; have hfz6_1 := blk_frozen BK320.out 1; have hfz6_2 := blk_frozen BK320.out 2) | ((with_reducible refine gate_callee (f := 42) rfl ?_); refine goesL_ (some 4) rfl rfl Tryd.func42 (by kernel_rfl) rfl #[.agg #[.int .u64 a0_0, .int .u64 a0_1, .slice A0_2 l0_2.length c0_2]] rfl (by (try simp only [List.map_toArray, List.map_cons, List.map_nil]); first | done | rfl | (simp only [List.length_drop, List.length_take]; rfl)) ?_; (with_reducible refine (spec_ProperRange.calls k a0_0 a0_1 _ _ l0_2 true _ ?side1 ?side2 A2.out).mono ?_); (case side1 => repeat (first | exact (Kd.C_below HR0_2.out HB.out) | (with_reducible refine Kd.C_alloc ?_ _) | (with_reducible refine Kd.C_drewN ?_ _) | (with_reducible refine Kd.C_drew ?_))); (case side2 => exact HC0_2.out); rintro e w7 ⟨rfl, hb⟩; refine ⟨_, rfl, ?_⟩; have n0_ := Aside0.mk (blk_below (g := gb320) (o := .cells #[.int .u64 a0_0, .int .u64 a0_1, .slice A0_2 l0_2.length c0_2] 34 (0, 0)) (by (with_reducible repeat (first | refine blk_drewN ?_ _ | refine blk_drew ?_ | refine blk_alloc ?_ _)); exact BK320.out) hb); have n1_ := Aside0.mk (below_step (by repeat (first | (with_reducible first | exact HB.out | apply below_alloc | apply pw_below_drewN | apply below_drew1 | refine below_set ?_ GE320.out) | exact HB.out)) hb); clear BK320; clear HB; have BK320 := n0_; have HB := n1_; clear n0_ n1_; (try clear hb); (try clear hb2); (try clear hk); (try clear hi); have hcz8_0 : w7.cell? ⟨gb320, 0, none⟩ = some (.int .u64 a0_0) := (blk_cell BK320.out 0).trans rfl; have hcz8_1 : w7.cell? ⟨gb320, 1, none⟩ = some (.int .u64 a0_1) := (blk_cell BK320.out 1).trans rfl; have hcz8_2 : w7.cell? ⟨gb320, 2, none⟩ = some (.slice A0_2 l0_2.length c0_2) := (blk_cell BK320.out 2).trans rfl; have hfz8_0 := blk_frozen BK320.out 0; have hfz8_1 := blk_frozen BK320.out 1; have hfz8_2 := blk_frozen BK320.out 2) | (go_at_call 13; (with_reducible refine (laws_logSmall.calls k _ _ l0_2 t322 _ ?side1 ?side2 A4.out).mono ?_); (case side1 => repeat (first | exact (Kd.C_below HR0_2.out HB.out) | (with_reducible refine Kd.C_alloc ?_ _) | (with_reducible refine Kd.C_drewN ?_ _) | (with_reducible refine Kd.C_drew ?_))); (case side2 => exact HC0_2.out); rintro e w' ⟨rfl, ⟨nd, rfl⟩⟩))
    go_ret
    exact ⟨by first | rfl | (simp [errW_none, errW_some] <;> rfl) | (simp [*, errW_none, errW_some] <;> rfl), by repeat (first | (with_reducible first | exact HB.out | apply below_alloc | apply pw_below_drewN | apply below_drew1 | refine below_set ?_ GE320.out) | exact HB.out)⟩
  · replace c3 := Bool.eq_false_iff.mpr c3
    subst c3
    have H1 : (some false) = some r := by rw [if_neg (show ¬ (false = true) by decide)] at H; exact H
    clear H
    have H := H1
    clear H1
    obtain rfl := Option.some.inj H
    go_enter Tryd.func18, Tryd.ntmps18
    go_wp2_with (first | ((with_reducible refine gate_dst (N := 1) rfl ?_); refine box_event ?hg (N := 1) ?hd (cs := #[.int .u64 a0_0, .int .u64 a0_1, .slice A0_2 l0_2.length c0_2]) (t := 34) ?hr ?_; (case hd => rfl); (case hg => rfl); (case hr => first | (go_simp; done) | (go_simp; rfl)); intro gb320 hg w9 hbox hb; have n0_ := Aside0.mk (below_step (by repeat (first | (with_reducible first | exact HB.out | apply below_alloc | apply pw_below_drewN | apply below_drew1) | exact HB.out)) hb); have n1_ := Aside0.mk (hbox); have n2_ := Aside0.mk ((by rw [hg]; exact (below_size (by repeat (first | (with_reducible first | exact HB.out | apply below_alloc | apply pw_below_drewN | apply below_drew1) | exact HB.out))) : w.heap.size ≤ gb320)); have n3_ := Aside0.mk ((by rw [hg]; exact (below_size (by repeat (first | (with_reducible first | exact HB.out | apply below_alloc | apply pw_below_drewN | apply below_drew1) | exact HB.out))) : w.heap.size ≤ gb320)); clear HB; have HB := n0_; have BK320 := n1_; have GW320 := n2_; have GE320 := n3_; clear n0_ n1_ n2_ n3_; clear hb hbox hg; have hcz10_0 : w9.cell? ⟨gb320, 0, none⟩ = some (.int .u64 a0_0) := (blk_cell BK320.out 0).trans rfl; have hcz10_1 : w9.cell? ⟨gb320, 1, none⟩ = some (.int .u64 a0_1) := (blk_cell BK320.out 1).trans rfl; have hcz10_2 : w9.cell? ⟨gb320, 2, none⟩ = some (.slice A0_2 l0_2.length c0_2) := (blk_cell BK320.out 2).trans rfl; have hfz10_0 := blk_frozen BK320.out 0; have hfz10_1 := blk_frozen BK320.out 1; have hfz10_2 := blk_frozen BK320.out 2) | ((with_reducible refine gate_callee (f := 42) rfl ?_); refine goesL_ (some 4) rfl rfl Tryd.func42 (by kernel_rfl) rfl #[.agg #[.int .u64 a0_0, .int .u64 a0_1, .slice A0_2 l0_2.length c0_2]] rfl (by (try simp only [List.map_toArray, List.map_cons, List.map_nil]); first | done | rfl | (simp only [List.length_drop, List.length_take]; rfl)) ?_; (with_reducible refine (spec_ProperRange.calls k a0_0 a0_1 _ _ l0_2 false _ ?side1 ?side2 A2.out).mono ?_); (case side1 => repeat (first | exact (Kd.C_below HR0_2.out HB.out) | (with_reducible refine Kd.C_alloc ?_ _) | (with_reducible refine Kd.C_drewN ?_ _) | (with_reducible refine Kd.C_drew ?_))); (case side2 => exact HC0_2.out); rintro e w11 ⟨rfl, hb⟩; refine ⟨_, rfl, ?_⟩; have n0_ := Aside0.mk (blk_below (g := gb320) (o := .cells #[.int .u64 a0_0, .int .u64 a0_1, .slice A0_2 l0_2.length c0_2] 34 (0, 0)) (by (with_reducible repeat (first | refine blk_drewN ?_ _ | refine blk_drew ?_ | refine blk_alloc ?_ _)); exact BK320.out) hb); have n1_ := Aside0.mk (below_step (by repeat (first | (with_reducible first | exact HB.out | apply below_alloc | apply pw_below_drewN | apply below_drew1 | refine below_set ?_ GE320.out) | exact HB.out)) hb); clear BK320; clear HB; have BK320 := n0_; have HB := n1_; clear n0_ n1_; (try clear hb); (try clear hb2); (try clear hk); (try clear hi)))
    go_ret
    exact ⟨by first | rfl | (simp [errW_none, errW_some] <;> rfl) | (simp [*, errW_none, errW_some] <;> rfl), by repeat (first | (with_reducible first | exact HB.out | apply below_alloc | apply pw_below_drewN | apply below_drew1 | refine below_set ?_ GE320.out) | exact HB.out)⟩
end Go.Proofs.YtielnphmcaecdaaDoor.PAll
