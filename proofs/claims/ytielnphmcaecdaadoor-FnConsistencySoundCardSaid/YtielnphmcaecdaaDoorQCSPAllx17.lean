-- Written by a program of this session (wip/tools)
import Derived.Test.YtielnphmcaecdaaDoorQCSPAllx0
import Derived.Test.YtielnphmcaecdaaDoorQCSPAllx10
import Derived.Test.YtielnphmcaecdaaDoorQCSPAllx11
import Derived.Test.YtielnphmcaecdaaDoorQCSPAllx12
namespace Go.Proofs.YtielnphmcaecdaaDoor.PAll
open Go.RowKit Go.Proofs.YtielnphmcaecdaaDoorW.PrintWords Go.Proofs.YtielnphmcaecdaaDoorW.PrintLast Go.Proofs.YtielnphmcaecdaaDoorW.PrintMore
attribute [local go_sem] max2_int min2_int max_two min_two max_three min_three max_four min_four   -- for this text's walks alone
set_option linter.unusedVariables false
set_option linter.unusedSimpArgs false
def spec_RootOf.f (k : Nat) (a0_0 : Int) (a0_1 : Int) (a0_2 : Int) (a0_3 : Int) (a0_4 : Int) (a0_5 : Int) (l1 : List (List Int)) (a2_0 : Int) (a2_1 : Int) : Option (List Int) := if 0 ≤ a2_0 then (if a2_0 ≤ a2_1 then (if a2_1 ≤ (l1.length : Int) then ((spec_Root.f k a0_0 a0_1 a0_2 a0_3 a0_4 a0_5 ((l1.take (a2_1 : Int).toNat).drop (a2_0 : Int).toNat)).bind fun t490 => (some t490)) else (none)) else (none)) else (none)
theorem spec_RootOf.mono : ∀ a0 a1 a2 a3 a4 a5 a6 a7 a8 k, LeO (spec_RootOf.f k a0 a1 a2 a3 a4 a5 a6 a7 a8) (spec_RootOf.f (k + 1) a0 a1 a2 a3 a4 a5 a6 a7 a8) := by
  intro a0 a1 a2 a3 a4 a5 a6 a7 a8 k
  unfold spec_RootOf.f
  repeat' first
      | (with_reducible exact spec_Root.mono _ _ _ _ _ _ _ _)
      | (with_reducible exact LeO.refl _)
      | (with_reducible exact LeO.none _)
      | (with_reducible refine LeO.ite ?_ ?_)
      | (with_reducible refine LeO.bind ?_ (fun _ => ?_))
      | exact spec_Root.mono _ _ _ _ _ _ _ _
      | exact LeO.none _
      | refine LeO.ite ?_ ?_
      | refine LeO.bind ?_ (fun _ => ?_)
def spec_RootOf.T1 : Bool × List (List Nat × List Nat) := (true, [([], []), ([], []), ([], []), ([2], [2]), ([], []), ([4], [4]), ([1, 3, 5], [1, 3, 5]), ([0, 6], [0, 6]), ([7, 7, 0, 1, 2, 3, 4, 5, 6, 7], [7])])
def spec_RootOf.B1 : List Nat := [0, 0, 0, 4, 0, 16, 62, 127, 255]
theorem spec_RootOf.tab1 : rtab .any (opsOf Tryd.f72 1) = spec_RootOf.T1 := by kernel_rfl
theorem spec_RootOf.bits1 : waitsOk spec_RootOf.T1.2 spec_RootOf.B1 = true := by kernel_rfl
set_option maxHeartbeats 8000000 in
set_option maxRecDepth 100000 in
theorem spec_RootOf.calls (k : Nat) (a0_0 : Int) (a0_1 : Int) (a0_2 : Int) (a0_3 : Int) (a0_4 : Int) (a0_5 : Int) (P1_ : Nat → Prop) (A1 : Option Addr) (c1 : Nat) (l1 : List (List Int)) (a2_0 : Int) (a2_1 : Int) (r : List Int) (w : World) (hs1 : Kd.V (Kd.slice 5 (Kd.int .u8)) 27 w w.heap.size (fun k_ => P1_ k_) (.slice A1 l1.length c1) l1) (h : spec_RootOf.f k a0_0 a0_1 a0_2 a0_3 a0_4 a0_5 l1 a2_0 a2_1 = some r) :
    Calls Tryd.prog 72 #[.agg #[.int .i64 a0_0, .int .i64 a0_1, .int .i64 a0_2, .int .u64 a0_3, .int .u64 a0_4, .int .u64 a0_5], .slice A1 l1.length c1, .agg #[.int .u64 a2_0, .int .u64 a2_1]] w fun e w' => ∃ v0_ : Value, e = .returned (v0_) ∧ Kd.V (Kd.int .u8) 5 w' w.heap.size (fun k_ => (P1_ k_ ∨ w.heap.size ≤ k_)) v0_ r ∧ Below w.heap.size w w' := by
  have hu24 := Tryd.underlying24
  have hu53 := Tryd.underlying53
  have HO1 := Aside0.mk (show Kd.V (Kd.slice 5 (Kd.int .u8)) 27 w w.heap.size (fun k_ => (P1_ k_ ∨ w.heap.size ≤ k_)) (.slice A1 l1.length c1) l1 from Kd.V_mono hs1 (fun k_ hk => .inl hk))
  have HB := Aside0.mk (Below.refl w.heap.size w)
  have H : (if 0 ≤ a2_0 then (if a2_0 ≤ a2_1 then (if a2_1 ≤ (l1.length : Int) then ((spec_Root.f k a0_0 a0_1 a0_2 a0_3 a0_4 a0_5 ((l1.take (a2_1 : Int).toNat).drop (a2_0 : Int).toNat)).bind fun t490 => (some t490)) else (none)) else (none)) else (none)) = some r := h
  clear h
  by_cases c4 : 0 ≤ a2_0
  · rw [if_pos c4] at H
    have c4b0 := eq_true c4
    have c4b1 : decide (0 ≤ a2_0) = true := decide_eq_true c4
    clear c4
    by_cases c5 : a2_0 ≤ a2_1
    · rw [if_pos c5] at H
      have c5b0 := eq_true c5
      have c5b1 : decide (a2_0 ≤ a2_1) = true := decide_eq_true c5
      clear c5
      by_cases c6 : a2_1 ≤ (l1.length : Int)
      · rw [if_pos c6] at H
        have c6b0 := eq_true c6
        have c6b1 : decide (a2_1 ≤ (l1.length : Int)) = true := decide_eq_true c6
        clear c6
        obtain ⟨y485, hy485⟩ : ∃ y_ : List (List Int), y_ = ((l1.take (a2_1 : Int).toNat).drop (a2_0 : Int).toNat) := ⟨_, rfl⟩
        replace H : ((spec_Root.f k a0_0 a0_1 a0_2 a0_3 a0_4 a0_5 y485).bind fun t490 => (some t490)) = some r := by first | (rw [hy485]; with_reducible exact H) | (have H2_ := (Option.bind_some _ _).symm.trans H; rw [hy485]; with_reducible exact H2_) | (have H2_ := (Option.bind_some _ _).symm.trans H; with_reducible exact H2_) | with_reducible exact H | (rw [hy485]; exact H) | exact H
        have Ny485 := Aside0.mk hy485
        clear hy485
        replace H := Option.bind_eq_some_iff.mp H
        obtain ⟨t490, A70, H⟩ := H
        replace H : (some t490) = some r := H
        have A7 := Aside0.mk A70
        clear A70
        obtain rfl := Option.some.inj H
        go_enter Tryd.func72, Tryd.ntmps72
        try go_wp2_with (first | ((with_reducible refine gate_dst (N := 3) rfl ?_); refine box_event ?hg (N := 3) ?hd (cs := #[.int .i64 a0_0, .int .i64 a0_1, .int .i64 a0_2, .int .u64 a0_3, .int .u64 a0_4, .int .u64 a0_5]) (t := 24) ?hr ?_; (case hd => rfl); (case hg => rfl); (case hr => first | (go_simp; done) | (go_simp; rfl)); intro gb483 hg w8 hbox hb; have n0_ := Aside0.mk (Kd.V_below (Kd.V_elderB (by (with_reducible repeat (first | apply Kd.V_alloc | apply Kd.V_drewN | apply Kd.V_drew)); exact HO1.out) gb483 (Nat.le_of_eq hg.symm)) hb); have n1_ := Aside0.mk (below_step (by repeat (first | (with_reducible first | exact HB.out | apply below_alloc | apply pw_below_drewN | apply below_drew1) | exact HB.out)) hb); have n2_ := Aside0.mk (hbox); have n3_ := Aside0.mk ((by rw [hg]; exact (below_size (by repeat (first | (with_reducible first | exact HB.out | apply below_alloc | apply pw_below_drewN | apply below_drew1) | exact HB.out))) : w.heap.size ≤ gb483)); have n4_ := Aside0.mk ((by rw [hg]; exact (below_size (by repeat (first | (with_reducible first | exact HB.out | apply below_alloc | apply pw_below_drewN | apply below_drew1) | exact HB.out))) : w.heap.size ≤ gb483)); clear HO1; clear HB; have HO1 := n0_; have HB := n1_; have BK483 := n2_; have GW483 := n3_; have GE483 := n4_; clear n0_ n1_ n2_ n3_ n4_; clear hb hbox hg) | ((with_reducible refine gate_dst (N := 5) rfl ?_); refine box_event ?hg (N := 5) ?hd (cs := #[.int .u64 a2_0, .int .u64 a2_1]) (t := 53) ?hr ?_; (case hd => rfl); (case hg => rfl); (case hr => first | (go_simp; done) | (go_simp; rfl)); intro gb484 hg w9 hbox hb; have n0_ := Aside0.mk (Kd.V_below (Kd.V_elderB (by (with_reducible repeat (first | apply Kd.V_alloc | apply Kd.V_drewN | apply Kd.V_drew)); exact HO1.out) gb484 (Nat.le_of_eq hg.symm)) hb); have n1_ := Aside0.mk (blk_below (g := gb483) (o := .cells #[.int .i64 a0_0, .int .i64 a0_1, .int .i64 a0_2, .int .u64 a0_3, .int .u64 a0_4, .int .u64 a0_5] 24 (0, 0)) (by (with_reducible repeat (first | refine blk_drewN ?_ _ | refine blk_drew ?_ | refine blk_alloc ?_ _)); exact BK483.out) hb); have n2_ := Aside0.mk (below_step (by repeat (first | (with_reducible first | exact HB.out | apply below_alloc | apply pw_below_drewN | apply below_drew1 | refine below_set ?_ GE483.out) | exact HB.out)) hb); have n3_ := Aside0.mk (hbox); have n4_ := Aside0.mk ((by rw [hg]; exact (below_size (by repeat (first | (with_reducible first | exact HB.out | apply below_alloc | apply pw_below_drewN | apply below_drew1 | refine below_set ?_ GE483.out) | exact HB.out))) : w.heap.size ≤ gb484)); have n5_ := Aside0.mk ((by rw [hg]; exact (below_size (by repeat (first | (with_reducible first | exact HB.out | apply below_alloc | apply pw_below_drewN | apply below_drew1 | refine below_set ?_ GE483.out) | exact HB.out))) : w.heap.size ≤ gb484)); have n6_ := Aside0.mk ((by rw [hg]; exact Nat.ne_of_lt (blk_lt (g := gb483) (o := .cells #[.int .i64 a0_0, .int .i64 a0_1, .int .i64 a0_2, .int .u64 a0_3, .int .u64 a0_4, .int .u64 a0_5] 24 (0, 0)) (by (with_reducible repeat (first | refine blk_drewN ?_ _ | refine blk_drew ?_ | refine blk_alloc ?_ _)); exact BK483.out)) : gb483 ≠ gb484)); have n7_ := Aside0.mk ((by rw [hg]; exact Nat.ne_of_gt (blk_lt (g := gb483) (o := .cells #[.int .i64 a0_0, .int .i64 a0_1, .int .i64 a0_2, .int .u64 a0_3, .int .u64 a0_4, .int .u64 a0_5] 24 (0, 0)) (by (with_reducible repeat (first | refine blk_drewN ?_ _ | refine blk_drew ?_ | refine blk_alloc ?_ _)); exact BK483.out)) : gb484 ≠ gb483)); clear HO1; clear BK483; clear HB; have HO1 := n0_; have BK483 := n1_; have HB := n2_; have BK484 := n3_; have GW484 := n4_; have GE484 := n5_; have NB483_484 := n6_; have NB484_483 := n7_; clear n0_ n1_ n2_ n3_ n4_ n5_ n6_ n7_; clear hb hbox hg))
        (try (rw [drewN_self w9]; generalize hq_ : World.drewN w9 _ = w9; have n0_ : Aside0 (Kd.V (Kd.slice 5 (Kd.int .u8)) 27 w9 w.heap.size (fun k_ => (P1_ k_ ∨ w.heap.size ≤ k_) ∧ k_ ≠ gb483 ∧ k_ ≠ gb484) (.slice A1 l1.length c1) l1) := ⟨by rw [← hq_]; exact (by (with_reducible repeat (first | apply Kd.V_alloc | apply Kd.V_drewN | apply Kd.V_drew)); exact Kd.V_mono HO1.out (fun _ hk => ⟨hk.1.1, ⟨hk.1.2, hk.2⟩⟩))⟩; have n1_ : Aside0 (w9.heap[gb483]? = some (.cells #[.int .i64 a0_0, .int .i64 a0_1, .int .i64 a0_2, .int .u64 a0_3, .int .u64 a0_4, .int .u64 a0_5] 24 (0, 0))) := ⟨by rw [← hq_]; exact (by (with_reducible repeat (first | refine blk_drewN ?_ _ | refine blk_drew ?_ | refine blk_alloc ?_ _)); exact BK483.out)⟩; have n2_ : Aside0 (w9.heap[gb484]? = some (.cells #[.int .u64 a2_0, .int .u64 a2_1] 53 (0, 0))) := ⟨by rw [← hq_]; exact (by (with_reducible repeat (first | refine blk_drewN ?_ _ | refine blk_drew ?_ | refine blk_alloc ?_ _)); exact BK484.out)⟩; have n3_ : Aside0 (Below w.heap.size w w9) := ⟨by rw [← hq_]; exact (by repeat (first | (with_reducible first | exact HB.out | apply below_alloc | apply pw_below_drewN | apply below_drew1 | refine below_set ?_ GE483.out | refine below_set ?_ GE484.out) | exact HB.out))⟩; clear HO1 BK483 BK484 HB hq_; have HO1 := n0_; have BK483 := n1_; have BK484 := n2_; have HB := n3_; clear n0_ n1_ n2_ n3_))
        have n0_ := Aside0.mk (Kd.V_drew HO1.out)
        have n1_ := Aside0.mk (blk_drew BK483.out)
        have n2_ := Aside0.mk (blk_drew BK484.out)
        have n3_ := Aside0.mk (below_drew1 HB.out)
        clear HO1
        clear BK483
        clear BK484
        clear HB
        have HO1 := n0_
        have BK483 := n1_
        have BK484 := n2_
        have HB := n3_
        clear n0_ n1_ n2_ n3_
        have q11 : (a2_1 : Int) ≤ ((l1.length : Int) : Int) := of_decide_eq_true (by first | (with_reducible assumption) | assumption)
        obtain ⟨i011, hi011, _, hsz11, _⟩ := info_parts info27
        have hroom11 : l1.length ≤ c1 := (Kd.V_reads' HO1.out).2.1
        have hC11 : Kd.F (Kd.slice 5 (Kd.int .u8)) _ _ A1 l1.length l1 := (Kd.V_at (base := w.heap.size) HO1.out).2.2
        have ql11 : (a2_0 : Int) ≤ (a2_1 : Int) := of_decide_eq_true (by first | (with_reducible assumption) | assumption)
        have q011 : (0 : Int) ≤ (a2_0 : Int) := of_decide_eq_true (by first | (with_reducible assumption) | assumption)
        have hcut11 := cut_mid (P := Tryd.prog) 25 27 .i64 .i64 Tryd.underlying25 hi011 1 hsz11 A1 l1.length c1 a2_0 a2_1 q011 ql11 q11 hroom11
        have hcut11u := cut_mid (P := Tryd.prog) 25 27 .u64 .u64 Tryd.underlying25 hi011 1 hsz11 A1 l1.length c1 a2_0 a2_1 q011 ql11 q11 hroom11
        have hr11 := Kd.F_mid (lo := (a2_0 : Int).toNat) (hi := (a2_1 : Int).toNat) (c := c1) hC11 (by omega) (by omega) hroom11
        obtain ⟨A11, hA11⟩ : ∃ A1_, A1_ = (if c1 = (a2_0 : Int).toNat then A1 else (A1 : Option Addr).map (·.add ((a2_0 : Int).toNat * 1))) := ⟨_, rfl⟩
        obtain ⟨c11, hc11⟩ : ∃ c1_, c1_ = c1 - (a2_0 : Int).toNat := ⟨_, rfl⟩
        have hy11 : y485.length = (a2_1 : Int).toNat - (a2_0 : Int).toNat := (by rw [Ny485.out, List.length_drop, List.length_take] <;> omega)
        rw [show ((l1).take (a2_1 : Int).toNat).drop (a2_0 : Int).toNat = y485 from Ny485.out.symm] at hr11
        replace hr11 : Kd.F (Kd.slice 5 (Kd.int .u8)) _ _ A11 y485.length y485 := (by rw [hA11]; exact hr11)
        rw [← hy11, ← hA11, ← hc11] at hcut11 hcut11u
        have HO489 := Aside0.mk (show Kd.V (Kd.slice 5 (Kd.int .u8)) 27 _ w.heap.size _ (.slice A11 y485.length c11) y485 from Kd.V_mk (by rw [hy11, hc11]; exact Nat.sub_le_sub_right (Nat.le_trans (by omega) hroom11) _) hr11)
        have HC489 := Aside0.mk (show y485.length ≤ c11 from by rw [hy11, hc11]; exact Nat.sub_le_sub_right (Nat.le_trans (by omega) hroom11) _)
        clear hr11 hC11 hroom11 hi011 hsz11 hc11
        have KY11 := Aside0.mk hy11
        have KA11 := Aside0.mk hA11
        clear hy11 hA11
        replace q11 := eq_true q11
        refine start_ (n := 9) (S := fun w' => w'.cell? ⟨gb483, 0, none⟩ = some (.int .i64 a0_0) ∧ w'.cell? ⟨gb483, 1, none⟩ = some (.int .i64 a0_1) ∧ w'.cell? ⟨gb483, 2, none⟩ = some (.int .i64 a0_2) ∧ w'.cell? ⟨gb483, 3, none⟩ = some (.int .u64 a0_3) ∧ w'.cell? ⟨gb483, 4, none⟩ = some (.int .u64 a0_4) ∧ w'.cell? ⟨gb483, 5, none⟩ = some (.int .u64 a0_5) ∧ w'.cell? ⟨gb484, 0, none⟩ = some (.int .u64 a2_0) ∧ w'.cell? ⟨gb484, 1, none⟩ = some (.int .u64 a2_1)) (ds := []) #[false, false, false, false, false, false, false, false, false] (by kernel_rfl) rfl rfl ⟨(blk_cell BK483.out 0).trans rfl, (blk_cell BK483.out 1).trans rfl, (blk_cell BK483.out 2).trans rfl, (blk_cell BK483.out 3).trans rfl, (blk_cell BK483.out 4).trans rfl, (blk_cell BK483.out 5).trans rfl, (blk_cell BK484.out 0).trans rfl, (blk_cell BK484.out 1).trans rfl⟩ (fun hHeld => ?_); refine with_tabW spec_RootOf.tab1 spec_RootOf.bits1 (fun HT_ HW_ => ?_)
        generalize w9.drew = w10 at HO1 BK483 BK484 HB HO489 hHeld ⊢
        refine pure_ (i := 1) (N := some 8) (v := ?_) (a' := ?_) #[false, true, false, false, false, false, false, false, false] rfl rfl (any_of HT_.out (by kernel_rfl)) (fun _ _ _ h => h) (Or.inl ⟨by rfl, ?_⟩) ?_ ?_
        rotate_left
        · intro w'
          go_simp
          with_reducible rfl
        rotate_left
        · simp only [Act.put, List.setIfInBounds_toArray, List.set_cons_zero, List.set_cons_succ, i64_w, i32_w]
          rfl
        refine pure_ (i := 2) (N := some 9) (v := ?_) (a' := ?_) #[false, true, true, false, false, false, false, false, false] rfl rfl (any_of HT_.out (by kernel_rfl)) (fun _ _ _ h => h) (Or.inl ⟨by rfl, ?_⟩) ?_ ?_
        rotate_left
        · intro w'
          go_simp
          with_reducible rfl
        rotate_left
        · simp only [Act.put, List.setIfInBounds_toArray, List.set_cons_zero, List.set_cons_succ, i64_w, i32_w]
          rfl
        refine pure_ (i := 4) (N := some 11) (v := ?_) (a' := ?_) #[false, true, true, false, true, false, false, false, false] rfl rfl (any_of HT_.out (by kernel_rfl)) (fun _ _ _ h => h) (Or.inl ⟨by rfl, ?_⟩) ?_ ?_
        rotate_left
        · intro w'
          go_simp
          with_reducible rfl
        rotate_left
        · simp only [Act.put, List.setIfInBounds_toArray, List.set_cons_zero, List.set_cons_succ, i64_w, i32_w]
          rfl
        refine take_ (i := 0) (N := some 7) (v := ?_) (a' := ?_) #[true, true, true, false, true, false, false, false, false] rfl rfl (take_ofW HT_.out HW_.out (by kernel_rfl)) (fun _ _ _ h => h) (Or.inl ⟨by rfl, ?_⟩) hHeld ?_ ?_
        rotate_left
        · rintro w' ⟨s0, s1, s2, s3, s4, s5, s6, s7⟩
          go_simp
          with_reducible rfl
        rotate_left
        · simp only [Act.put, List.setIfInBounds_toArray, List.set_cons_zero, List.set_cons_succ, i64_w, i32_w]
          rfl
        refine take_ (i := 3) (N := some 10) (v := ?_) (a' := ?_) #[true, true, true, true, true, false, false, false, false] rfl rfl (take_ofW HT_.out HW_.out (by kernel_rfl)) (fun _ _ _ h => h) (Or.inl ⟨by rfl, ?_⟩) hHeld ?_ ?_
        rotate_left
        · rintro w' ⟨s0, s1, s2, s3, s4, s5, s6, s7⟩
          go_simp
          with_reducible rfl
        rotate_left
        · simp only [Act.put, List.setIfInBounds_toArray, List.set_cons_zero, List.set_cons_succ, i64_w, i32_w]
          rfl
        refine take_ (i := 5) (N := some 12) (v := ?_) (a' := ?_) #[true, true, true, true, true, true, false, false, false] rfl rfl (take_ofW HT_.out HW_.out (by kernel_rfl)) (fun _ _ _ h => h) (Or.inl ⟨by rfl, ?_⟩) hHeld ?_ ?_
        rotate_left
        · rintro w' ⟨s0, s1, s2, s3, s4, s5, s6, s7⟩
          go_simp
          with_reducible rfl
        rotate_left
        · simp only [Act.put, List.setIfInBounds_toArray, List.set_cons_zero, List.set_cons_succ, i64_w, i32_w]
          rfl
        refine pure_ (i := 6) (N := some 13) (v := ?_) (a' := ?_) #[true, true, true, true, true, true, true, false, false] rfl rfl (any_of HT_.out (by kernel_rfl)) (fun _ _ _ h => h) (Or.inl ⟨by rfl, ?_⟩) ?_ ?_
        rotate_left
        · intro w'
          go_simp
          with_reducible rfl
        rotate_left
        · simp only [Act.put, List.setIfInBounds_toArray, List.set_cons_zero, List.set_cons_succ, i64_w, i32_w]
          rfl
        refine one_ (i := 7) (N := some 14) #[true, true, true, true, true, true, true, true, false] rfl rfl (one_of HT_.out (by kernel_rfl)) (by decide) (fun K hK => ?_)
        refine goes_ Tryd.func16 (by kernel_rfl) rfl #[.agg #[.int .i64 a0_0, .int .i64 a0_1, .int .i64 a0_2, .int .u64 a0_3, .int .u64 a0_4, .int .u64 a0_5], .slice A11 y485.length c11] (by rfl) rfl rfl (by (try simp only [List.map_toArray, List.map_cons, List.map_nil]); first | done | rfl | (simp only [List.length_drop, List.length_take]; rfl)) ?_
        with_reducible refine (spec_Root.calls k a0_0 a0_1 a0_2 a0_3 a0_4 a0_5 (fun k_ => (((P1_ k_ ∨ w.heap.size ≤ k_) ∧ k_ ≠ gb483) ∧ k_ ≠ gb484)) _ _ y485 t490 _ ?side1 A7.out).mono ?_
        (case side1 => exact HO489.out)
        rintro e w12 ⟨v491, rfl, ho0, hb⟩
        refine ⟨_, rfl, ?_⟩
        have n0_ := Aside0.mk (Kd.V_below (by (with_reducible repeat (first | apply Kd.V_alloc | apply Kd.V_drewN | apply Kd.V_drew)); exact HO1.out) hb)
        have n1_ := Aside0.mk (Kd.V_below (by (with_reducible repeat (first | apply Kd.V_alloc | apply Kd.V_drewN | apply Kd.V_drew)); exact HO489.out) hb)
        have n2_ := Aside0.mk (Kd.V_lower (Kd.V_mono (ok' := fun k_ => (P1_ k_ ∨ w.heap.size ≤ k_) ∧ k_ ≠ gb483 ∧ k_ ≠ gb484) ho0 (fun k_ hk_ => ⟨Or.elim hk_ (fun hs_ => hs_.1.1) (fun hn_ => (.inr (Nat.le_trans (below_size (by repeat (first | (with_reducible first | exact HB.out | apply below_alloc | apply pw_below_drewN | apply below_drew1 | refine below_set ?_ GE483.out | refine below_set ?_ GE484.out) | exact HB.out))) hn_))), Or.elim hk_ (fun hs_ => hs_.1.2) (fun hn_ => (Kd.freshB (g := gb483) (o := .cells #[.int .i64 a0_0, .int .i64 a0_1, .int .i64 a0_2, .int .u64 a0_3, .int .u64 a0_4, .int .u64 a0_5] 24 (0, 0)) (by (with_reducible repeat (first | refine blk_drewN ?_ _ | refine blk_drew ?_ | refine blk_alloc ?_ _)); exact BK483.out) k_ hn_)), Or.elim hk_ (fun hs_ => hs_.2) (fun hn_ => (Kd.freshB (g := gb484) (o := .cells #[.int .u64 a2_0, .int .u64 a2_1] 53 (0, 0)) (by (with_reducible repeat (first | refine blk_drewN ?_ _ | refine blk_drew ?_ | refine blk_alloc ?_ _)); exact BK484.out) k_ hn_))⟩)) (below_size (by repeat (first | (with_reducible first | exact HB.out | apply below_alloc | apply pw_below_drewN | apply below_drew1 | refine below_set ?_ GE483.out | refine below_set ?_ GE484.out) | exact HB.out))))
        have n3_ := Aside0.mk (blk_below (g := gb483) (o := .cells #[.int .i64 a0_0, .int .i64 a0_1, .int .i64 a0_2, .int .u64 a0_3, .int .u64 a0_4, .int .u64 a0_5] 24 (0, 0)) (by (with_reducible repeat (first | refine blk_drewN ?_ _ | refine blk_drew ?_ | refine blk_alloc ?_ _)); exact BK483.out) hb)
        have n4_ := Aside0.mk (blk_below (g := gb484) (o := .cells #[.int .u64 a2_0, .int .u64 a2_1] 53 (0, 0)) (by (with_reducible repeat (first | refine blk_drewN ?_ _ | refine blk_drew ?_ | refine blk_alloc ?_ _)); exact BK484.out) hb)
        have n5_ := Aside0.mk (below_step (by repeat (first | (with_reducible first | exact HB.out | apply below_alloc | apply pw_below_drewN | apply below_drew1 | refine below_set ?_ GE483.out | refine below_set ?_ GE484.out) | exact HB.out)) hb)
        clear HO1
        clear HO489
        clear BK483
        clear BK484
        clear HB
        have HO1 := n0_
        have HO489 := n1_
        have HO492 := n2_
        have BK483 := n3_
        have BK484 := n4_
        have HB := n5_
        clear n0_ n1_ n2_ n3_ n4_ n5_
        (try clear hb)
        (try clear hb2)
        (try clear hk)
        (try clear hi)
        (try clear ho0)
        refine hK.out _ _ ⟨(blk_cell BK483.out 0).trans rfl, (blk_cell BK483.out 1).trans rfl, (blk_cell BK483.out 2).trans rfl, (blk_cell BK483.out 3).trans rfl, (blk_cell BK483.out 4).trans rfl, (blk_cell BK483.out 5).trans rfl, (blk_cell BK484.out 0).trans rfl, (blk_cell BK484.out 1).trans rfl⟩ (fun hHeld => ?_)
        clear hK K
        refine norm_ (a' := ?_) ?_ ?_
        rotate_left
        · show Act.put _ (some 14) _ = _
          simp only [Act.put, List.setIfInBounds_toArray, List.set_cons_zero, List.set_cons_succ, i64_w, i32_w]
          rfl
        refine pure_ (i := 8) (N := some 6) (v := ?_) (a' := ?_) #[true, true, true, true, true, true, true, true, true] rfl rfl (any_of HT_.out (by kernel_rfl)) (fun _ _ _ h => h) (Or.inl ⟨by rfl, ?_⟩) ?_ ?_
        rotate_left
        · intro w'
          go_simp
          with_reducible rfl
        rotate_left
        · simp only [Act.put, List.setIfInBounds_toArray, List.set_cons_zero, List.set_cons_succ, i64_w, i32_w]
          rfl
        refine done_ (done_of HT_.out (by kernel_rfl)) ?_
        try go_wp2
        go_ret
        exact ⟨_, by first | rfl | (simp [errW_none, errW_some] <;> rfl) | (simp [*, errW_none, errW_some] <;> rfl), by (with_reducible repeat (first | apply Kd.V_alloc | apply Kd.V_drewN | apply Kd.V_drew)); exact Kd.V_mono HO492.out (fun _ hk => hk.1), by repeat (first | (with_reducible first | exact HB.out | apply below_alloc | apply pw_below_drewN | apply below_drew1 | refine below_set ?_ GE483.out | refine below_set ?_ GE484.out) | exact HB.out)⟩
      · rw [if_neg c6] at H
        exact absurd H (by simp)
    · rw [if_neg c5] at H
      exact absurd H (by simp)
  · rw [if_neg c4] at H
    exact absurd H (by simp)
def spec_NodeHash.f (k : Nat) (a0_0 : Int) (a0_1 : Int) (a0_2 : Int) (a0_3 : Int) (a0_4 : Int) (a0_5 : Int) (l1 : List (List Int)) (a2_0 : Int) (a2_1 : Int) : Option (List Int) := (spec_Leaves.f a2_0 a2_1).bind fun bt495 => ((spec_RootOf.f k a0_0 a0_1 a0_2 a0_3 a0_4 a0_5 l1 bt495.1 bt495.2).bind fun t497 => (some t497))
theorem spec_NodeHash.mono : ∀ a0 a1 a2 a3 a4 a5 a6 a7 a8 k, LeO (spec_NodeHash.f k a0 a1 a2 a3 a4 a5 a6 a7 a8) (spec_NodeHash.f (k + 1) a0 a1 a2 a3 a4 a5 a6 a7 a8) := by
  intro a0 a1 a2 a3 a4 a5 a6 a7 a8 k
  unfold spec_NodeHash.f
  repeat' first
      | (with_reducible exact spec_RootOf.mono _ _ _ _ _ _ _ _ _ _)
      | (with_reducible exact LeO.refl _)
      | (with_reducible exact LeO.none _)
      | (with_reducible refine LeO.ite ?_ ?_)
      | (with_reducible refine LeO.bind ?_ (fun _ => ?_))
      | exact spec_RootOf.mono _ _ _ _ _ _ _ _ _ _
      | exact LeO.none _
      | refine LeO.ite ?_ ?_
      | refine LeO.bind ?_ (fun _ => ?_)
def spec_Path.l0 : Nat → List (List Int) → List (List Int) → List (S53) → Int → Int → Int → Int → Int → Int → Int → Int → Option ((List (List Int)))
  | 0, _, _, _, _, _, _, _, _, _, _, _ => none
  | k + 1, x1, x7, x14, x15, x16, x501000, x501001, x501002, x501003, x501004, x501005 => if x16 < x15 then (if 0 ≤ x16 then (if x16 < (x14.length : Int) then ((spec_RootOf.f k x501000 x501001 x501002 x501003 x501004 x501005 x1 ((rd_T53 x14 x16).f0) ((rd_T53 x14 x16).f1)).bind fun t506 => (if x7.length < 5864062014805 then (spec_Path.l0 k x1 (x7 ++ [t506]) x14 x15 (wrap64 (x16 + 1)) x501000 x501001 x501002 x501003 x501004 x501005) else (none))) else (none)) else (none)) else (some x7)
def spec_Path.f (k : Nat) (a0_0 : Int) (a0_1 : Int) (a0_2 : Int) (a0_3 : Int) (a0_4 : Int) (a0_5 : Int) (l1 : List (List Int)) (a2 : Int) : Option ((List (List Int))) := (spec_PathParts.f k a2 (IntKind.u64.wrap ((l1.length : Int)))).bind fun t501 => (spec_Path.l0 k l1 ([] : List (List Int)) t501 (t501.length : Int) 0 a0_0 a0_1 a0_2 a0_3 a0_4 a0_5)
theorem spec_Path.mono_l : ∀ k, (∀ y0 y1 y2 y3 y4 y5 y6 y7 y8 y9 y10, LeO (spec_Path.l0 k y0 y1 y2 y3 y4 y5 y6 y7 y8 y9 y10) (spec_Path.l0 (k + 1) y0 y1 y2 y3 y4 y5 y6 y7 y8 y9 y10))
  | 0 => fun _ _ _ _ _ _ _ _ _ _ _ r h => by simp [spec_Path.l0] at h
  | k + 1 => by
    have ih0 := spec_Path.mono_l k
    · intro y0 y1 y2 y3 y4 y5 y6 y7 y8 y9 y10
      unfold spec_Path.l0
      repeat' first
      | (with_reducible exact ih0 _ _ _ _ _ _ _ _ _ _ _)
      | (with_reducible exact spec_PathParts.mono _ _ _)
      | (with_reducible exact spec_RootOf.mono _ _ _ _ _ _ _ _ _ _)
      | (with_reducible exact LeO.refl _)
      | (with_reducible exact LeO.none _)
      | (with_reducible refine LeO.ite ?_ ?_)
      | (with_reducible refine LeO.bind ?_ (fun _ => ?_))
      | exact ih0 _ _ _ _ _ _ _ _ _ _ _
      | exact spec_PathParts.mono _ _ _
      | exact spec_RootOf.mono _ _ _ _ _ _ _ _ _ _
      | exact LeO.none _
      | refine LeO.ite ?_ ?_
      | refine LeO.bind ?_ (fun _ => ?_)
theorem spec_Path.mono : ∀ a0 a1 a2 a3 a4 a5 a6 a7 k, LeO (spec_Path.f k a0 a1 a2 a3 a4 a5 a6 a7) (spec_Path.f (k + 1) a0 a1 a2 a3 a4 a5 a6 a7) := by
  intro a0 a1 a2 a3 a4 a5 a6 a7 k
  have ih0 := spec_Path.mono_l k
  unfold spec_Path.f
  repeat' first
      | (with_reducible exact ih0 _ _ _ _ _ _ _ _ _ _ _)
      | (with_reducible exact spec_PathParts.mono _ _ _)
      | (with_reducible exact spec_RootOf.mono _ _ _ _ _ _ _ _ _ _)
      | (with_reducible exact LeO.refl _)
      | (with_reducible exact LeO.none _)
      | (with_reducible refine LeO.ite ?_ ?_)
      | (with_reducible refine LeO.bind ?_ (fun _ => ?_))
      | exact ih0 _ _ _ _ _ _ _ _ _ _ _
      | exact spec_PathParts.mono _ _ _
      | exact spec_RootOf.mono _ _ _ _ _ _ _ _ _ _
      | exact LeO.none _
      | refine LeO.ite ?_ ?_
      | refine LeO.bind ?_ (fun _ => ?_)
def spec_Proof.l0 : Nat → List (List Int) → List (List Int) → List (S53) → Int → Int → Int → Int → Int → Int → Int → Int → Option ((List (List Int)))
  | 0, _, _, _, _, _, _, _, _, _, _, _ => none
  | k + 1, x1, x7, x14, x15, x16, x513000, x513001, x513002, x513003, x513004, x513005 => if x16 < x15 then (if 0 ≤ x16 then (if x16 < (x14.length : Int) then ((spec_RootOf.f k x513000 x513001 x513002 x513003 x513004 x513005 x1 ((rd_T53 x14 x16).f0) ((rd_T53 x14 x16).f1)).bind fun t518 => (if x7.length < 5864062014805 then (spec_Proof.l0 k x1 (x7 ++ [t518]) x14 x15 (wrap64 (x16 + 1)) x513000 x513001 x513002 x513003 x513004 x513005) else (none))) else (none)) else (none)) else (some x7)
def spec_Proof.f (k : Nat) (a0_0 : Int) (a0_1 : Int) (a0_2 : Int) (a0_3 : Int) (a0_4 : Int) (a0_5 : Int) (l1 : List (List Int)) (a2 : Int) : Option ((List (List Int))) := (spec_ProofParts.f k a2 (IntKind.u64.wrap ((l1.length : Int)))).bind fun t513 => (spec_Proof.l0 k l1 ([] : List (List Int)) t513 (t513.length : Int) 0 a0_0 a0_1 a0_2 a0_3 a0_4 a0_5)
theorem spec_Proof.mono_l : ∀ k, (∀ y0 y1 y2 y3 y4 y5 y6 y7 y8 y9 y10, LeO (spec_Proof.l0 k y0 y1 y2 y3 y4 y5 y6 y7 y8 y9 y10) (spec_Proof.l0 (k + 1) y0 y1 y2 y3 y4 y5 y6 y7 y8 y9 y10))
  | 0 => fun _ _ _ _ _ _ _ _ _ _ _ r h => by simp [spec_Proof.l0] at h
  | k + 1 => by
    have ih0 := spec_Proof.mono_l k
    · intro y0 y1 y2 y3 y4 y5 y6 y7 y8 y9 y10
      unfold spec_Proof.l0
      repeat' first
      | (with_reducible exact ih0 _ _ _ _ _ _ _ _ _ _ _)
      | (with_reducible exact spec_ProofParts.mono _ _ _)
      | (with_reducible exact spec_RootOf.mono _ _ _ _ _ _ _ _ _ _)
      | (with_reducible exact LeO.refl _)
      | (with_reducible exact LeO.none _)
      | (with_reducible refine LeO.ite ?_ ?_)
      | (with_reducible refine LeO.bind ?_ (fun _ => ?_))
      | exact ih0 _ _ _ _ _ _ _ _ _ _ _
      | exact spec_ProofParts.mono _ _ _
      | exact spec_RootOf.mono _ _ _ _ _ _ _ _ _ _
      | exact LeO.none _
      | refine LeO.ite ?_ ?_
      | refine LeO.bind ?_ (fun _ => ?_)
theorem spec_Proof.mono : ∀ a0 a1 a2 a3 a4 a5 a6 a7 k, LeO (spec_Proof.f k a0 a1 a2 a3 a4 a5 a6 a7) (spec_Proof.f (k + 1) a0 a1 a2 a3 a4 a5 a6 a7) := by
  intro a0 a1 a2 a3 a4 a5 a6 a7 k
  have ih0 := spec_Proof.mono_l k
  unfold spec_Proof.f
  repeat' first
      | (with_reducible exact ih0 _ _ _ _ _ _ _ _ _ _ _)
      | (with_reducible exact spec_ProofParts.mono _ _ _)
      | (with_reducible exact spec_RootOf.mono _ _ _ _ _ _ _ _ _ _)
      | (with_reducible exact LeO.refl _)
      | (with_reducible exact LeO.none _)
      | (with_reducible refine LeO.ite ?_ ?_)
      | (with_reducible refine LeO.bind ?_ (fun _ => ?_))
      | exact ih0 _ _ _ _ _ _ _ _ _ _ _
      | exact spec_ProofParts.mono _ _ _
      | exact spec_RootOf.mono _ _ _ _ _ _ _ _ _ _
      | exact LeO.none _
      | refine LeO.ite ?_ ?_
      | refine LeO.bind ?_ (fun _ => ?_)
set_option maxHeartbeats 8000000 in
set_option maxRecDepth 100000 in
theorem spec_Proof.calls (k : Nat) (a0_0 : Int) (a0_1 : Int) (a0_2 : Int) (a0_3 : Int) (a0_4 : Int) (a0_5 : Int) (P1_ : Nat → Prop) (A1 : Option Addr) (c1 : Nat) (l1 : List (List Int)) (a2 : Int) (r : List (List Int)) (w : World) (hs1 : Kd.V (Kd.slice 5 (Kd.int .u8)) 27 w w.heap.size (fun k_ => P1_ k_) (.slice A1 l1.length c1) l1) (h : spec_Proof.f k a0_0 a0_1 a0_2 a0_3 a0_4 a0_5 l1 a2 = some r) :
    Calls Tryd.prog 37 #[.agg #[.int .i64 a0_0, .int .i64 a0_1, .int .i64 a0_2, .int .u64 a0_3, .int .u64 a0_4, .int .u64 a0_5], .slice A1 l1.length c1, .int .u64 a2] w fun e w' => ∃ v0_ : Value, e = .returned (v0_) ∧ Kd.N (Kd.slice 5 (Kd.int .u8)) 27 w' w.heap.size (fun k_ => (P1_ k_ ∨ w.heap.size ≤ k_)) v0_ r ∧ Below w.heap.size w w' := by
  have hu24 := Tryd.underlying24
  have hu53 := Tryd.underlying53
  have HO1 := Aside0.mk (show Kd.V (Kd.slice 5 (Kd.int .u8)) 27 w w.heap.size (fun k_ => (P1_ k_ ∨ w.heap.size ≤ k_)) (.slice A1 l1.length c1) l1 from Kd.V_mono hs1 (fun k_ hk => .inl hk))
  have HB := Aside0.mk (Below.refl w.heap.size w)
  have H : ((spec_ProofParts.f k a2 (IntKind.u64.wrap ((l1.length : Int)))).bind fun t513 => (spec_Proof.l0 k l1 ([] : List (List Int)) t513 (t513.length : Int) 0 a0_0 a0_1 a0_2 a0_3 a0_4 a0_5)) = some r := h
  clear h
  replace H := Option.bind_eq_some_iff.mp H
  obtain ⟨t513, A40, H⟩ := H
  replace H : (spec_Proof.l0 k l1 ([] : List (List Int)) t513 (t513.length : Int) 0 a0_0 a0_1 a0_2 a0_3 a0_4 a0_5) = some r := H
  have A4 := Aside0.mk A40
  clear A40
  have H' := Aside0.mk H
  clear H
  go_enter Tryd.func37, Tryd.ntmps37
  go_wp2_with (first | ((with_reducible refine gate_dst (N := 3) rfl ?_); refine box_event ?hg (N := 3) ?hd (cs := #[.int .i64 a0_0, .int .i64 a0_1, .int .i64 a0_2, .int .u64 a0_3, .int .u64 a0_4, .int .u64 a0_5]) (t := 24) ?hr ?_; (case hd => rfl); (case hg => rfl); (case hr => first | (go_simp; done) | (go_simp; rfl)); intro gb512 hg w5 hbox hb; have n0_ := Aside0.mk (Kd.V_below (Kd.V_elderB (by (with_reducible repeat (first | apply Kd.V_alloc | apply Kd.V_drewN | apply Kd.V_drew)); exact HO1.out) gb512 (Nat.le_of_eq hg.symm)) hb); have n1_ := Aside0.mk (below_step (by repeat (first | (with_reducible first | exact HB.out | apply below_alloc | apply pw_below_drewN | apply below_drew1) | exact HB.out)) hb); have n2_ := Aside0.mk (hbox); have n3_ := Aside0.mk ((by rw [hg]; exact (below_size (by repeat (first | (with_reducible first | exact HB.out | apply below_alloc | apply pw_below_drewN | apply below_drew1) | exact HB.out))) : w.heap.size ≤ gb512)); have n4_ := Aside0.mk ((by rw [hg]; exact (below_size (by repeat (first | (with_reducible first | exact HB.out | apply below_alloc | apply pw_below_drewN | apply below_drew1) | exact HB.out))) : w.heap.size ≤ gb512)); clear HO1; clear HB; have HO1 := n0_; have HB := n1_; have BK512 := n2_; have GW512 := n3_; have GE512 := n4_; clear n0_ n1_ n2_ n3_ n4_; clear hb hbox hg) | ((with_reducible refine gate_callee (f := 66) rfl ?_); refine goesL_ (some 14) rfl rfl Tryd.func66 (by kernel_rfl) rfl #[.int .u64 a2, .int .u64 (IntKind.u64.wrap ((l1.length : Int)))] rfl (by (try simp only [List.map_toArray, List.map_cons, List.map_nil]); first | done | rfl | (simp only [List.length_drop, List.length_take]; rfl)) ?_; (with_reducible refine (spec_ProofParts.calls k a2 (IntKind.u64.wrap ((l1.length : Int))) t513 _ A4.out).mono ?_); rintro e w6 ⟨v514, rfl, ho0, hb⟩; refine ⟨_, rfl, ?_⟩; have n0_ := Aside0.mk (Kd.V_elder' (by (with_reducible repeat (first | apply Kd.V_alloc | apply Kd.V_drewN | apply Kd.V_drew)); exact HO1.out) (Kd.R_base ho0) hb); have n1_ := Aside0.mk (Kd.R_lower (Kd.R_newM (M := fun k_ => (w.heap.size ≤ k_)) ho0 (below_size (by repeat (first | (with_reducible first | exact HB.out | apply below_alloc | apply pw_below_drewN | apply below_drew1 | refine below_set ?_ GE512.out) | exact HB.out))) (fun k_ h_ => h_)) (below_size (by repeat (first | (with_reducible first | exact HB.out | apply below_alloc | apply pw_below_drewN | apply below_drew1 | refine below_set ?_ GE512.out) | exact HB.out)))); have n2_ := Aside0.mk (blk_below (g := gb512) (o := .cells #[.int .i64 a0_0, .int .i64 a0_1, .int .i64 a0_2, .int .u64 a0_3, .int .u64 a0_4, .int .u64 a0_5] 24 (0, 0)) (by (with_reducible repeat (first | refine blk_drewN ?_ _ | refine blk_drew ?_ | refine blk_alloc ?_ _)); exact BK512.out) hb); have n3_ := Aside0.mk (below_step (by repeat (first | (with_reducible first | exact HB.out | apply below_alloc | apply pw_below_drewN | apply below_drew1 | refine below_set ?_ GE512.out) | exact HB.out)) hb); clear HO1; clear BK512; clear HB; have HO1 := n0_; have HO515 := n1_; have BK512 := n2_; have HB := n3_; clear n0_ n1_ n2_ n3_; (try clear hb); (try clear hb2); (try clear hk); (try clear hi); (try clear ho0); obtain ⟨Ao7, co7, eo7⟩ := Kd.R_slice HO515.out; subst eo7))
  try simp only [Act.put, List.setIfInBounds_toArray, List.set_cons_zero, List.set_cons_succ]
  go_loopg [7, 16] k (fun kq v7 v16 w' => ∃ (x7_1 : List (List Int)) (x16_1 : Int), v16 = .int .i64 x16_1 ∧ Aside0 (spec_Proof.l0 kq l1 x7_1 t513 (t513.length : Int) x16_1 a0_0 a0_1 a0_2 a0_3 a0_4 a0_5 = some r) ∧ Aside0 (kq ≤ k) ∧ Aside0 (Kd.V (Kd.slice 5 (Kd.int .u8)) 27 w' w.heap.size (fun k_ => (P1_ k_ ∨ w.heap.size ≤ k_) ∧ some k_ ≠ (v7 : Value).ownBlock ∧ some k_ ≠ ((.slice Ao7 t513.length co7) : Value).ownBlock ∧ k_ ≠ gb512) (.slice A1 l1.length c1) l1) ∧ Aside0 (Kd.N (Kd.slice 5 (Kd.int .u8)) 27 w' w.heap.size (fun k_ => (P1_ k_ ∨ w.heap.size ≤ k_) ∧ some k_ ≠ ((.slice Ao7 t513.length co7) : Value).ownBlock ∧ k_ ≠ gb512) v7 x7_1) ∧ Aside0 (Kd.R k53 53 w' w.heap.size (fun k_ => (w.heap.size ≤ k_)) (.slice Ao7 t513.length co7) t513) ∧ Aside0 (w'.heap[gb512]? = some (.cells #[.int .i64 a0_0, .int .i64 a0_1, .int .i64 a0_2, .int .u64 a0_3, .int .u64 a0_4, .int .u64 a0_5] 24 (0, 0))) ∧ Aside0 (Below w.heap.size w w'))
  case atStart => exact ⟨(([] : List (List Int))), (0), (by first | rfl | (simp; done) | (simp [*]; done)), H', ⟨Nat.le_refl _⟩, ⟨by (with_reducible repeat (first | apply Kd.V_alloc | apply Kd.V_drewN | apply Kd.V_drew)); exact Kd.V_mono HO1.out (fun _ hk => ⟨hk.1.1, ⟨(by simp [Value.ownBlock]), ⟨hk.2, hk.1.2⟩⟩⟩)⟩, ⟨by first | exact Kd.S_nil _ _ _ _ _ | exact Kd.N_nil _ _ _ _ _ | exact Kd.V_nil _ _ _ _ _ | exact Kd.Q_nil _ _ _ _ _ | exact Kd.R_nil _ _ _ _ _⟩, ⟨by (with_reducible repeat (first | apply Kd.R_alloc | apply Kd.R_drewN | apply Kd.R_drew)); exact Kd.R_mono HO515.out (fun _ hk => hk.1)⟩, ⟨by (with_reducible repeat (first | refine blk_drewN ?_ _ | refine blk_drew ?_ | refine blk_alloc ?_ _)); exact BK512.out⟩, ⟨by repeat (first | (with_reducible first | exact HB.out | apply below_alloc | apply pw_below_drewN | apply below_drew1 | refine below_set ?_ GE512.out) | exact HB.out)⟩⟩
  case round =>
    clear H'
    try clear c1
    try clear p2
    try clear c3
    try clear c6
    obtain ⟨x7_1, x16_1, rfl, HA, HK1, HO_1, HO_7, HO_14, BK512, HB⟩ := hrel
    cases gk with
    | zero => exact absurd HA.out (by simp [spec_Proof.l0])
    | succ k1 =>
      have H := HA.out
      clear HA
      simp only [spec_Proof.l0] at H
      by_cases c8 : x16_1 < (t513.length : Int)
      · rw [if_pos c8] at H
        have c8b0 : decide (x16_1 < (t513.length : Int)) = true := decide_eq_true c8
        clear c8
        by_cases c9 : 0 ≤ x16_1
        · rw [if_pos c9] at H
          have c9b0 : decide (0 ≤ x16_1) = true := decide_eq_true c9
          clear c9
          by_cases c10 : x16_1 < (t513.length : Int)
          · rw [if_pos c10] at H
            have c10b0 : decide (x16_1 < (t513.length : Int)) = true := decide_eq_true c10
            clear c10
            replace H := Option.bind_eq_some_iff.mp H
            obtain ⟨t518, A110, H⟩ := H
            replace H : (if x7_1.length < 5864062014805 then (spec_Proof.l0 k1 l1 (x7_1 ++ [t518]) t513 (t513.length : Int) (wrap64 (x16_1 + 1)) a0_0 a0_1 a0_2 a0_3 a0_4 a0_5) else (none)) = some r := H
            have A11 := Aside0.mk A110
            clear A110
            by_cases c12 : x7_1.length < 5864062014805
            · rw [if_pos c12] at H
              have LMc12 := Aside0.mk c12
              clear c12
              obtain ⟨y521, hy521⟩ : ∃ y_ : List (List Int), y_ = (x7_1 ++ [t518]) := ⟨_, rfl⟩
              replace H : (spec_Proof.l0 k1 l1 y521 t513 (t513.length : Int) (wrap64 (x16_1 + 1)) a0_0 a0_1 a0_2 a0_3 a0_4 a0_5) = some r := by first | (rw [hy521]; with_reducible exact H) | (have H2_ := (Option.bind_some _ _).symm.trans H; rw [hy521]; with_reducible exact H2_) | (have H2_ := (Option.bind_some _ _).symm.trans H; with_reducible exact H2_) | with_reducible exact H | (rw [hy521]; exact H) | exact H
              have Ny521 := Aside0.mk hy521
              clear hy521
              have H' := Aside0.mk H
              clear H
              have p516 : 0 ≤ (x16_1 : Int) := of_decide_eq_true (by first | (with_reducible assumption) | assumption)
              have q516 : x16_1 < (t513.length : Int) := of_decide_eq_true (by first | (with_reducible assumption) | assumption)
              obtain ⟨ad516, e516, hx516_0, hx516_1⟩ := at_T53 (Kd.R_reads' HO_14.out).2.2 x16_1 p516 q516
              cases e516
              replace p516 := eq_true p516
              replace q516 := eq_true q516
              go_wp2_with (first | ((with_reducible refine gate_dst (N := 9) rfl ?_); refine box_event ?hg (N := 9) ?hd (cs := #[.int .u64 0, .int .u64 0]) (t := 53) ?hr ?_; (case hd => rfl); (case hg => rfl); (case hr => first | (go_simp; done) | (go_simp; rfl)); intro gb517 hg w13 hbox hb; have n0_ := Aside0.mk (Kd.V_below (Kd.V_elderB (by (with_reducible repeat (first | apply Kd.V_alloc | apply Kd.V_drewN | apply Kd.V_drew)); exact HO_1.out) gb517 (Nat.le_of_eq hg.symm)) hb); have n1_ := Aside0.mk (Kd.N_below (Kd.N_elderB (by (with_reducible repeat (first | apply Kd.N_alloc | apply Kd.N_drewN | apply Kd.N_drew)); exact HO_7.out) gb517 (Nat.le_of_eq hg.symm)) hb); have n2_ := Aside0.mk (Kd.R_below (Kd.R_elderB (by (with_reducible repeat (first | apply Kd.R_alloc | apply Kd.R_drewN | apply Kd.R_drew)); exact HO_14.out) gb517 (Nat.le_of_eq hg.symm)) hb); have n3_ := Aside0.mk (blk_below (g := gb512) (o := .cells #[.int .i64 a0_0, .int .i64 a0_1, .int .i64 a0_2, .int .u64 a0_3, .int .u64 a0_4, .int .u64 a0_5] 24 (0, 0)) (by (with_reducible repeat (first | refine blk_drewN ?_ _ | refine blk_drew ?_ | refine blk_alloc ?_ _)); exact BK512.out) hb); have n4_ := Aside0.mk (below_step (by repeat (first | (with_reducible first | exact HB.out | apply below_alloc | apply pw_below_drewN | apply below_drew1 | refine below_set ?_ GE512.out) | exact HB.out)) hb); have n5_ := Aside0.mk (hbox); have n6_ := Aside0.mk ((by rw [hg]; exact (below_size (by repeat (first | (with_reducible first | exact HB.out | apply below_alloc | apply pw_below_drewN | apply below_drew1 | refine below_set ?_ GE512.out) | exact HB.out))) : w.heap.size ≤ gb517)); have n7_ := Aside0.mk ((by rw [hg]; exact (below_size (by repeat (first | (with_reducible first | exact HB.out | apply below_alloc | apply pw_below_drewN | apply below_drew1 | refine below_set ?_ GE512.out) | exact HB.out))) : w.heap.size ≤ gb517)); have n8_ := Aside0.mk ((by rw [hg]; exact Nat.ne_of_lt (blk_lt (g := gb512) (o := .cells #[.int .i64 a0_0, .int .i64 a0_1, .int .i64 a0_2, .int .u64 a0_3, .int .u64 a0_4, .int .u64 a0_5] 24 (0, 0)) (by (with_reducible repeat (first | refine blk_drewN ?_ _ | refine blk_drew ?_ | refine blk_alloc ?_ _)); exact BK512.out)) : gb512 ≠ gb517)); have n9_ := Aside0.mk ((by rw [hg]; exact Nat.ne_of_gt (blk_lt (g := gb512) (o := .cells #[.int .i64 a0_0, .int .i64 a0_1, .int .i64 a0_2, .int .u64 a0_3, .int .u64 a0_4, .int .u64 a0_5] 24 (0, 0)) (by (with_reducible repeat (first | refine blk_drewN ?_ _ | refine blk_drew ?_ | refine blk_alloc ?_ _)); exact BK512.out)) : gb517 ≠ gb512)); clear HO_1; clear HO_7; clear HO_14; clear BK512; clear HB; have HO_1 := n0_; have HO_7 := n1_; have HO_14 := n2_; have BK512 := n3_; have HB := n4_; have BK517 := n5_; have GW517 := n6_; have GE517 := n7_; have NB512_517 := n8_; have NB517_512 := n9_; clear n0_ n1_ n2_ n3_ n4_ n5_ n6_ n7_ n8_ n9_; clear hb hbox hg; have hnb14 := NB517_512.out; have hnc14 := NB512_517.out; have hcz15_0 : w13.cell? ⟨gb517, 0, none⟩ = some (.int .u64 0) := (blk_cell BK517.out 0).trans rfl; have hcz15_1 : w13.cell? ⟨gb517, 1, none⟩ = some (.int .u64 0) := (blk_cell BK517.out 1).trans rfl; have hfz15_0 := blk_frozen BK517.out 0; have hfz15_1 := blk_frozen BK517.out 1) | ((with_reducible refine gate_store (t := 53) (p := 9) rfl ?_); refine store_event (t := 53) (p := 9) (v := ?vo_w16) (w1 := ((w13.setCell ⟨gb517, 0, none⟩ (.int .u64 ((rd_T53 t513 x16_1).f0))).setCell ⟨gb517, 1, none⟩ (.int .u64 ((rd_T53 t513 x16_1).f1)))) ?hg ?ho ?hn ?hr ?_; (case ho => rfl); (case hg => rfl); (case hn => rfl); (case hr => first | (go_simp; done) | (go_simp; rfl)); intro w16 hw; have n0_ : Aside0 (Kd.V (Kd.slice 5 (Kd.int .u8)) 27 w16 w.heap.size (fun k_ => (P1_ k_ ∨ w.heap.size ≤ k_) ∧ some k_ ≠ (u7 : Value).ownBlock ∧ some k_ ≠ (.slice (some ad516) t513.length co7 : Value).ownBlock ∧ k_ ≠ gb512 ∧ k_ ≠ gb517) (.slice A1 l1.length c1) l1) := ⟨(by rw [hw]; exact (by (with_reducible repeat (first | apply Kd.V_alloc | apply Kd.V_drewN | apply Kd.V_drew)); exact Kd.V_mono (Kd.V_far (p := ⟨gb517, 1, none⟩) (Kd.V_far (p := ⟨gb517, 0, none⟩) (Kd.V_mono HO_1.out (fun k_ hk => (⟨hk, hk.2⟩ : _ ∧ k_ ≠ gb517))) (fun _ hk => hk.2) (.int .u64 ((rd_T53 t513 x16_1).f0))) (fun _ hk => hk.2) (.int .u64 ((rd_T53 t513 x16_1).f1))) (fun _ hk => ⟨hk.1.1.1, ⟨hk.1.1.2.1, ⟨hk.1.1.2.2.1, ⟨hk.1.1.2.2.2, hk.1.2⟩⟩⟩⟩)))⟩; have n1_ : Aside0 (Kd.N (Kd.slice 5 (Kd.int .u8)) 27 w16 w.heap.size (fun k_ => (P1_ k_ ∨ w.heap.size ≤ k_) ∧ some k_ ≠ (.slice (some ad516) t513.length co7 : Value).ownBlock ∧ k_ ≠ gb512 ∧ k_ ≠ gb517) u7 x7_1) := ⟨(by rw [hw]; exact (by (with_reducible repeat (first | apply Kd.N_alloc | apply Kd.N_drewN | apply Kd.N_drew)); exact Kd.N_mono (Kd.N_far (p := ⟨gb517, 1, none⟩) (Kd.N_far (p := ⟨gb517, 0, none⟩) (Kd.N_mono HO_7.out (fun k_ hk => (⟨hk, hk.2⟩ : _ ∧ k_ ≠ gb517))) (fun _ hk => hk.2) (.int .u64 ((rd_T53 t513 x16_1).f0))) (fun _ hk => hk.2) (.int .u64 ((rd_T53 t513 x16_1).f1))) (fun _ hk => ⟨hk.1.1.1, ⟨hk.1.1.2.1, ⟨hk.1.1.2.2, hk.1.2⟩⟩⟩)))⟩; have n2_ : Aside0 (Kd.R k53 53 w16 w.heap.size (fun k_ => (w.heap.size ≤ k_) ∧ k_ ≠ gb517) (.slice (some ad516) t513.length co7) t513) := ⟨(by rw [hw]; exact (by (with_reducible repeat (first | apply Kd.R_alloc | apply Kd.R_drewN | apply Kd.R_drew)); exact Kd.R_mono (Kd.R_far (p := ⟨gb517, 1, none⟩) (Kd.R_far (p := ⟨gb517, 0, none⟩) (Kd.R_mono HO_14.out (fun k_ hk => (⟨hk, hk.2⟩ : _ ∧ k_ ≠ gb517))) (fun _ hk => hk.2) (.int .u64 ((rd_T53 t513 x16_1).f0))) (fun _ hk => hk.2) (.int .u64 ((rd_T53 t513 x16_1).f1))) (fun _ hk => ⟨hk.1.1, hk.1.2⟩)))⟩; have n3_ : Aside0 (w16.heap[gb512]? = some (.cells #[.int .i64 a0_0, .int .i64 a0_1, .int .i64 a0_2, .int .u64 a0_3, .int .u64 a0_4, .int .u64 a0_5] 24 (0, 0))) := ⟨(by rw [hw]; exact (by (with_reducible repeat (first | refine blk_drewN ?_ _ | refine blk_drew ?_ | refine blk_alloc ?_ _)); refine blk_far ?_ NB512_517.out _; (with_reducible repeat (first | refine blk_drewN ?_ _ | refine blk_drew ?_ | refine blk_alloc ?_ _)); refine blk_far ?_ NB512_517.out _; (with_reducible repeat (first | refine blk_drewN ?_ _ | refine blk_drew ?_ | refine blk_alloc ?_ _)); exact BK512.out))⟩; have n4_ : Aside0 (w16.heap[gb517]? = some (.cells #[.int .u64 ((rd_T53 t513 x16_1).f0), .int .u64 ((rd_T53 t513 x16_1).f1)] 53 (0, 0))) := ⟨(by rw [hw]; exact (by (with_reducible repeat (first | refine blk_drewN ?_ _ | refine blk_drew ?_ | refine blk_alloc ?_ _)); refine blk_put (cs := #[.int .u64 ((rd_T53 t513 x16_1).f0), .int .u64 0]) ?_ 1 _ rfl; (with_reducible repeat (first | refine blk_drewN ?_ _ | refine blk_drew ?_ | refine blk_alloc ?_ _)); refine blk_put (cs := #[.int .u64 0, .int .u64 0]) ?_ 0 _ rfl; (with_reducible repeat (first | refine blk_drewN ?_ _ | refine blk_drew ?_ | refine blk_alloc ?_ _)); exact BK517.out))⟩; have n5_ : Aside0 (Below w.heap.size w w16) := ⟨(by rw [hw]; exact (by repeat (first | (with_reducible first | exact HB.out | apply below_alloc | apply pw_below_drewN | apply below_drew1 | refine below_set ?_ GE512.out | refine below_set ?_ GE517.out) | exact HB.out)))⟩; clear hw; clear HO_1; clear HO_7; clear HO_14; clear BK512; clear BK517; clear HB; have HO_1 := n0_; have HO_7 := n1_; have HO_14 := n2_; have BK512 := n3_; have BK517 := n4_; have HB := n5_; clear n0_ n1_ n2_ n3_ n4_ n5_; have hcz17_0 : w16.cell? ⟨gb512, 0, none⟩ = some (.int .i64 a0_0) := (blk_cell BK512.out 0).trans rfl; have hcz17_1 : w16.cell? ⟨gb512, 1, none⟩ = some (.int .i64 a0_1) := (blk_cell BK512.out 1).trans rfl; have hcz17_2 : w16.cell? ⟨gb512, 2, none⟩ = some (.int .i64 a0_2) := (blk_cell BK512.out 2).trans rfl; have hcz17_3 : w16.cell? ⟨gb512, 3, none⟩ = some (.int .u64 a0_3) := (blk_cell BK512.out 3).trans rfl; have hcz17_4 : w16.cell? ⟨gb512, 4, none⟩ = some (.int .u64 a0_4) := (blk_cell BK512.out 4).trans rfl; have hcz17_5 : w16.cell? ⟨gb512, 5, none⟩ = some (.int .u64 a0_5) := (blk_cell BK512.out 5).trans rfl; have hfz17_0 := blk_frozen BK512.out 0; have hfz17_1 := blk_frozen BK512.out 1; have hfz17_2 := blk_frozen BK512.out 2; have hfz17_3 := blk_frozen BK512.out 3; have hfz17_4 := blk_frozen BK512.out 4; have hfz17_5 := blk_frozen BK512.out 5; have hcz18_0 : w16.cell? ⟨gb517, 0, none⟩ = some (.int .u64 ((rd_T53 t513 x16_1).f0)) := (blk_cell BK517.out 0).trans rfl; have hcz18_1 : w16.cell? ⟨gb517, 1, none⟩ = some (.int .u64 ((rd_T53 t513 x16_1).f1)) := (blk_cell BK517.out 1).trans rfl; have hfz18_0 := blk_frozen BK517.out 0; have hfz18_1 := blk_frozen BK517.out 1) | ((with_reducible refine gate_callee (f := 72) rfl ?_); refine goesL_ (some 24) rfl rfl Tryd.func72 (by kernel_rfl) rfl #[.agg #[.int .i64 a0_0, .int .i64 a0_1, .int .i64 a0_2, .int .u64 a0_3, .int .u64 a0_4, .int .u64 a0_5], .slice A1 l1.length c1, .agg #[.int .u64 ((rd_T53 t513 x16_1).f0), .int .u64 ((rd_T53 t513 x16_1).f1)]] rfl (by (try simp only [List.map_toArray, List.map_cons, List.map_nil]); first | done | rfl | (simp only [List.length_drop, List.length_take]; rfl)) ?_; (with_reducible refine (spec_RootOf.calls k1 a0_0 a0_1 a0_2 a0_3 a0_4 a0_5 (fun k_ => ((P1_ k_ ∨ w.heap.size ≤ k_) ∧ (some k_ ≠ (u7 : Value).ownBlock ∧ (some k_ ≠ (.slice (some ad516) t513.length co7 : Value).ownBlock ∧ (k_ ≠ gb512 ∧ k_ ≠ gb517))))) _ _ l1 ((rd_T53 t513 x16_1).f0) ((rd_T53 t513 x16_1).f1) t518 _ ?side1 A11.out).mono ?_); (case side1 => exact HO_1.out); rintro e w19 ⟨v519, rfl, ho0, hb⟩; refine ⟨_, rfl, ?_⟩; have n0_ := Aside0.mk (Kd.V_below (by (with_reducible repeat (first | apply Kd.V_alloc | apply Kd.V_drewN | apply Kd.V_drew)); exact HO_1.out) hb); have n1_ := Aside0.mk (Kd.N_below (by (with_reducible repeat (first | apply Kd.N_alloc | apply Kd.N_drewN | apply Kd.N_drew)); exact HO_7.out) hb); have n2_ := Aside0.mk (Kd.R_below (by (with_reducible repeat (first | apply Kd.R_alloc | apply Kd.R_drewN | apply Kd.R_drew)); exact HO_14.out) hb); have n3_ := Aside0.mk (Kd.V_lower (Kd.V_mono (ok' := fun k_ => (P1_ k_ ∨ w.heap.size ≤ k_) ∧ some k_ ≠ (u7 : Value).ownBlock ∧ some k_ ≠ (.slice (some ad516) t513.length co7 : Value).ownBlock ∧ k_ ≠ gb512 ∧ k_ ≠ gb517) ho0 (fun k_ hk_ => ⟨Or.elim hk_ (fun hs_ => hs_.1) (fun hn_ => (.inr (Nat.le_trans (below_size (by repeat (first | (with_reducible first | exact HB.out | apply below_alloc | apply pw_below_drewN | apply below_drew1 | refine below_set ?_ GE512.out | refine below_set ?_ GE517.out) | exact HB.out))) hn_))), Or.elim hk_ (fun hs_ => hs_.2.1) (fun hn_ => (Kd.fresh' (Kd.N_lt (by (with_reducible repeat (first | apply Kd.N_alloc | apply Kd.N_drewN | apply Kd.N_drew)); exact HO_7.out)) k_ hn_)), Or.elim hk_ (fun hs_ => hs_.2.2.1) (fun hn_ => (Kd.fresh' (Kd.R_lt (by (with_reducible repeat (first | apply Kd.R_alloc | apply Kd.R_drewN | apply Kd.R_drew)); exact HO_14.out)) k_ hn_)), Or.elim hk_ (fun hs_ => hs_.2.2.2.1) (fun hn_ => (Kd.freshB (g := gb512) (o := .cells #[.int .i64 a0_0, .int .i64 a0_1, .int .i64 a0_2, .int .u64 a0_3, .int .u64 a0_4, .int .u64 a0_5] 24 (0, 0)) (by (with_reducible repeat (first | refine blk_drewN ?_ _ | refine blk_drew ?_ | refine blk_alloc ?_ _)); exact BK512.out) k_ hn_)), Or.elim hk_ (fun hs_ => hs_.2.2.2.2) (fun hn_ => (Kd.freshB (g := gb517) (o := .cells #[.int .u64 ((rd_T53 t513 x16_1).f0), .int .u64 ((rd_T53 t513 x16_1).f1)] 53 (0, 0)) (by (with_reducible repeat (first | refine blk_drewN ?_ _ | refine blk_drew ?_ | refine blk_alloc ?_ _)); exact BK517.out) k_ hn_))⟩)) (below_size (by repeat (first | (with_reducible first | exact HB.out | apply below_alloc | apply pw_below_drewN | apply below_drew1 | refine below_set ?_ GE512.out | refine below_set ?_ GE517.out) | exact HB.out)))); have n4_ := Aside0.mk (blk_below (g := gb512) (o := .cells #[.int .i64 a0_0, .int .i64 a0_1, .int .i64 a0_2, .int .u64 a0_3, .int .u64 a0_4, .int .u64 a0_5] 24 (0, 0)) (by (with_reducible repeat (first | refine blk_drewN ?_ _ | refine blk_drew ?_ | refine blk_alloc ?_ _)); exact BK512.out) hb); have n5_ := Aside0.mk (blk_below (g := gb517) (o := .cells #[.int .u64 ((rd_T53 t513 x16_1).f0), .int .u64 ((rd_T53 t513 x16_1).f1)] 53 (0, 0)) (by (with_reducible repeat (first | refine blk_drewN ?_ _ | refine blk_drew ?_ | refine blk_alloc ?_ _)); exact BK517.out) hb); have n6_ := Aside0.mk (below_step (by repeat (first | (with_reducible first | exact HB.out | apply below_alloc | apply pw_below_drewN | apply below_drew1 | refine below_set ?_ GE512.out | refine below_set ?_ GE517.out) | exact HB.out)) hb); clear HO_1; clear HO_7; clear HO_14; clear BK512; clear BK517; clear HB; have HO_1 := n0_; have HO_7 := n1_; have HO_14 := n2_; have HO520 := n3_; have BK512 := n4_; have BK517 := n5_; have HB := n6_; clear n0_ n1_ n2_ n3_ n4_ n5_ n6_; (try clear hb); (try clear hb2); (try clear hk); (try clear hi); (try clear ho0); obtain ⟨Ao21, co21, eo21⟩ := Kd.V_slice HO520.out; subst eo21) | ((with_reducible refine gate_builtin (b := .append) (xs := #[.tmp 20, .tmp 25]) rfl ?_); at_builtin; refine Kd.N_append (Kd.slice 5 (Kd.int .u8)) (w0 := w) w.heap.size rfl (.tmp 20) (.tmp 25) 25 27 (.slice none 0 0) 24 rfl Tryd.underlying25 info27 rfl (by decide) (by omega) u7 x7_1 t518 [.slice Ao21 t518.length co21] (fun k_ => (P1_ k_ ∨ w.heap.size ≤ k_) ∧ some k_ ≠ (.slice (some ad516) t513.length co7 : Value).ownBlock ∧ k_ ≠ gb512 ∧ k_ ≠ gb517) (fun k_ => ((fun k_ => (P1_ k_ ∨ w.heap.size ≤ k_) ∧ some k_ ≠ (.slice (some ad516) t513.length co7 : Value).ownBlock ∧ k_ ≠ gb512 ∧ k_ ≠ gb517)) k_ ∧ some k_ ≠ (u7 : Value).ownBlock) rfl rfl ?aP (fun _ hk => hk) ?aF ?aO ?aB ?aS ?aL ?_; (case aP => exact (Kd.FK_slice_mk (Kd.V_reads' (Kd.V_mono (ok' := (fun k_ => ((fun k_ => (P1_ k_ ∨ w.heap.size ≤ k_) ∧ some k_ ≠ (.slice (some ad516) t513.length co7 : Value).ownBlock ∧ k_ ≠ gb512 ∧ k_ ≠ gb517)) k_ ∧ some k_ ≠ (u7 : Value).ownBlock)) (HO520.out) (fun k_ hk => ⟨⟨hk.1, ⟨hk.2.2.1, ⟨hk.2.2.2.1, hk.2.2.2.2⟩⟩⟩, hk.2.1⟩))).2.1 (Kd.V_F (Kd.V_mono (ok' := (fun k_ => ((fun k_ => (P1_ k_ ∨ w.heap.size ≤ k_) ∧ some k_ ≠ (.slice (some ad516) t513.length co7 : Value).ownBlock ∧ k_ ≠ gb512 ∧ k_ ≠ gb517)) k_ ∧ some k_ ≠ (u7 : Value).ownBlock)) (HO520.out) (fun k_ hk => ⟨⟨hk.1, ⟨hk.2.2.1, ⟨hk.2.2.2.1, hk.2.2.2.2⟩⟩⟩, hk.2.1⟩))))); (case aB => exact (by repeat (first | (with_reducible first | exact HB.out | apply below_alloc | apply pw_below_drewN | apply below_drew1 | refine below_set ?_ GE512.out | refine below_set ?_ GE517.out) | exact HB.out))); (case aF => exact (fun k_ hk => ⟨(.inr (Nat.le_trans (below_size (by repeat (first | (with_reducible first | exact HB.out | apply below_alloc | apply pw_below_drewN | apply below_drew1 | refine below_set ?_ GE512.out | refine below_set ?_ GE517.out) | exact HB.out))) hk)), Kd.fresh' (Kd.R_lt (by (with_reducible repeat (first | apply Kd.R_alloc | apply Kd.R_drewN | apply Kd.R_drew)); exact HO_14.out)) k_ hk, Kd.freshB (g := gb512) (o := .cells #[.int .i64 a0_0, .int .i64 a0_1, .int .i64 a0_2, .int .u64 a0_3, .int .u64 a0_4, .int .u64 a0_5] 24 (0, 0)) (by (with_reducible repeat (first | refine blk_drewN ?_ _ | refine blk_drew ?_ | refine blk_alloc ?_ _)); exact BK512.out) k_ hk, Kd.freshB (g := gb517) (o := .cells #[.int .u64 ((rd_T53 t513 x16_1).f0), .int .u64 ((rd_T53 t513 x16_1).f1)] 53 (0, 0)) (by (with_reducible repeat (first | refine blk_drewN ?_ _ | refine blk_drew ?_ | refine blk_alloc ?_ _)); exact BK517.out) k_ hk⟩)); (case aO => exact (by (with_reducible repeat (first | apply Kd.N_alloc | apply Kd.N_drewN | apply Kd.N_drew)); exact HO_7.out)); (case aS => exact (below_size (by repeat (first | (with_reducible first | exact HB.out | apply below_alloc | apply pw_below_drewN | apply below_drew1 | refine below_set ?_ GE512.out | refine below_set ?_ GE517.out) | exact HB.out)))); (case aL => have := LMc12.out; omega); intro v522 w20 ho hb hg hat; rw [← Ny521.out] at ho; have n0_ := Aside0.mk (Kd.V_afterv (ok := (fun k_ => (P1_ k_ ∨ w.heap.size ≤ k_) ∧ some k_ ≠ (.slice (some ad516) t513.length co7 : Value).ownBlock ∧ k_ ≠ gb512 ∧ k_ ≠ gb517)) (by (with_reducible repeat (first | apply Kd.V_alloc | apply Kd.V_drewN | apply Kd.V_drew)); exact Kd.V_mono HO_1.out (fun _ hk => ⟨⟨hk.1, ⟨hk.2.2.1, ⟨hk.2.2.2.1, hk.2.2.2.2⟩⟩⟩, hk.2.1⟩)) hg hat); have n1_ := Aside0.mk (Kd.R_over' (by (with_reducible repeat (first | apply Kd.R_alloc | apply Kd.R_drewN | apply Kd.R_drew)); exact HO_14.out) (Kd.N_typed (by (with_reducible repeat (first | apply Kd.N_alloc | apply Kd.N_drewN | apply Kd.N_drew)); exact HO_7.out)) (by decide) hg); have n2_ := Aside0.mk (blk_grown (g := gb512) (o := .cells #[.int .i64 a0_0, .int .i64 a0_1, .int .i64 a0_2, .int .u64 a0_3, .int .u64 a0_4, .int .u64 a0_5] 24 (0, 0)) (by (with_reducible repeat (first | refine blk_drewN ?_ _ | refine blk_drew ?_ | refine blk_alloc ?_ _)); exact BK512.out) hg (Kd.N_ne HO_7.out BK512.out (by decide))); have n3_ := Aside0.mk (blk_grown (g := gb517) (o := .cells #[.int .u64 ((rd_T53 t513 x16_1).f0), .int .u64 ((rd_T53 t513 x16_1).f1)] 53 (0, 0)) (by (with_reducible repeat (first | refine blk_drewN ?_ _ | refine blk_drew ?_ | refine blk_alloc ?_ _)); exact BK517.out) hg (Kd.N_ne HO_7.out BK517.out (by decide))); have n4_ := Aside0.mk (Kd.V_afterv (ok := (fun k_ => (P1_ k_ ∨ w.heap.size ≤ k_) ∧ some k_ ≠ (.slice (some ad516) t513.length co7 : Value).ownBlock ∧ k_ ≠ gb512 ∧ k_ ≠ gb517)) (by (with_reducible repeat (first | apply Kd.V_alloc | apply Kd.V_drewN | apply Kd.V_drew)); exact Kd.V_mono HO520.out (fun _ hk => ⟨⟨hk.1, ⟨hk.2.2.1, ⟨hk.2.2.2.1, hk.2.2.2.2⟩⟩⟩, hk.2.1⟩)) hg hat); have n5_ := Aside0.mk (hb); have n6_ := Aside0.mk (ho); clear HO_1; clear HO_14; clear BK512; clear BK517; clear HO520; clear HB; clear HO_7; have HO_1 := n0_; have HO_14 := n1_; have BK512 := n2_; have BK517 := n3_; have HO520 := n4_; have HB := n5_; have HO523 := n6_; clear n0_ n1_ n2_ n3_ n4_ n5_ n6_; clear ho hb hg hat))
              go_roundg k1
              case measure => have := HK1.out; omega
              case rel => exact ⟨(y521), (wrap64 (x16_1 + 1)), (by first | rfl | (simp; done) | (simp [*]; done)), H', ⟨by have := HK1.out; omega⟩, ⟨by (with_reducible repeat (first | apply Kd.V_alloc | apply Kd.V_drewN | apply Kd.V_drew)); exact Kd.V_mono HO_1.out (fun _ hk => ⟨hk.1.1, ⟨hk.2, ⟨hk.1.2.1, hk.1.2.2.1⟩⟩⟩)⟩, ⟨by (with_reducible repeat (first | apply Kd.N_alloc | apply Kd.N_drewN | apply Kd.N_drew)); exact Kd.N_mono HO523.out (fun _ hk => ⟨hk.1, ⟨hk.2.1, hk.2.2.1⟩⟩)⟩, ⟨by (with_reducible repeat (first | apply Kd.R_alloc | apply Kd.R_drewN | apply Kd.R_drew)); exact Kd.R_mono HO_14.out (fun _ hk => hk.1)⟩, ⟨by (with_reducible repeat (first | refine blk_drewN ?_ _ | refine blk_drew ?_ | refine blk_alloc ?_ _)); exact BK512.out⟩, ⟨by repeat (first | (with_reducible first | exact HB.out | apply below_alloc | apply pw_below_drewN | apply below_drew1 | refine below_set ?_ GE512.out | refine below_set ?_ GE517.out) | exact HB.out)⟩⟩
            · rw [if_neg c12] at H
              exact absurd H (by simp)
          · rw [if_neg c10] at H
            exact absurd H (by simp)
        · rw [if_neg c9] at H
          exact absurd H (by simp)
      · rw [if_neg c8] at H
        have c8b0 : decide (x16_1 < (t513.length : Int)) = false := decide_eq_false c8
        clear c8
        obtain rfl := Option.some.inj H
        go_wp2
        go_ret
        exact ⟨_, by first | rfl | (simp [errW_none, errW_some] <;> rfl) | (simp [*, errW_none, errW_some] <;> rfl), by (with_reducible repeat (first | apply Kd.N_alloc | apply Kd.N_drewN | apply Kd.N_drew)); exact Kd.N_mono HO_7.out (fun _ hk => hk.1), by repeat (first | (with_reducible first | exact HB.out | apply below_alloc | apply pw_below_drewN | apply below_drew1 | refine below_set ?_ GE512.out) | exact HB.out)⟩
end Go.Proofs.YtielnphmcaecdaaDoor.PAll
