-- Written by a program of this session (wip/tools)
import Derived.Test.YtielnphmcaecdaaDoorQIMPAllx0
import Derived.Test.YtielnphmcaecdaaDoorQIMPAllx7
import Derived.Test.YtielnphmcaecdaaDoorQIMPAllx10
import Derived.Test.YtielnphmcaecdaaDoorQIMPAllx11
import Derived.Test.YtielnphmcaecdaaDoorQIMPAllx12
namespace Go.Proofs.YtielnphmcaecdaaDoor.PAll
open Go.RowKit Go.Proofs.YtielnphmcaecdaaDoorW.PrintWords Go.Proofs.YtielnphmcaecdaaDoorW.PrintLast Go.Proofs.YtielnphmcaecdaaDoorW.PrintMore
attribute [local go_sem] max2_int min2_int max_two min_two max_three min_three max_four min_four   -- for this text's walks alone
set_option linter.unusedVariables false
set_option linter.unusedSimpArgs false
def spec_RootOf.f (k : Nat) (a0_0 : Int) (a0_1 : Int) (a0_2 : Int) (a0_3 : Int) (a0_4 : Int) (a0_5 : Int) (l1 : List (List Int)) (a2_0 : Int) (a2_1 : Int) : Option (List Int) := if 0 ≤ a2_0 then (if a2_0 ≤ a2_1 then (if a2_1 ≤ (l1.length : Int) then ((spec_Root.f k a0_0 a0_1 a0_2 a0_3 a0_4 a0_5 ((l1.take (a2_1 : Int).toNat).drop (a2_0 : Int).toNat)).bind fun t490 => (some t490)) else (none)) else (none)) else (none)
theorem spec_RootOf.mono : ∀ a0 a1 a2 a3 a4 a5 a6 a7 a8 k, LeO (spec_RootOf.f k a0 a1 a2 a3 a4 a5 a6 a7 a8) (spec_RootOf.f (k + 1) a0 a1 a2 a3 a4 a5 a6 a7 a8) := by
  intro a0 a1 a2 a3 a4 a5 a6 a7 a8 k
  unfold spec_RootOf.f
  repeat' first
      | (with_reducible exact spec_Root.mono _ _ _ _ _ _ _ _)
      | (with_reducible exact LeO.refl _)
      | (with_reducible exact LeO.none _)
      | (with_reducible refine LeO.ite ?_ ?_)
      | (with_reducible refine LeO.bind ?_ (fun _ => ?_))
      | exact spec_Root.mono _ _ _ _ _ _ _ _
      | exact LeO.none _
      | refine LeO.ite ?_ ?_
      | refine LeO.bind ?_ (fun _ => ?_)
def spec_RootOf.T1 : Bool × List (List Nat × List Nat) := (true, [([], []), ([], []), ([], []), ([2], [2]), ([], []), ([4], [4]), ([1, 3, 5], [1, 3, 5]), ([0, 6], [0, 6]), ([7, 7, 0, 1, 2, 3, 4, 5, 6, 7], [7])])
def spec_RootOf.B1 : List Nat := [0, 0, 0, 4, 0, 16, 62, 127, 255]
theorem spec_RootOf.tab1 : rtab .any (opsOf Tryd.f72 1) = spec_RootOf.T1 := by kernel_rfl
theorem spec_RootOf.bits1 : waitsOk spec_RootOf.T1.2 spec_RootOf.B1 = true := by kernel_rfl
set_option maxHeartbeats 8000000 in
set_option maxRecDepth 100000 in
theorem spec_RootOf.calls (k : Nat) (a0_0 : Int) (a0_1 : Int) (a0_2 : Int) (a0_3 : Int) (a0_4 : Int) (a0_5 : Int) (P1_ : Nat → Prop) (A1 : Option Addr) (c1 : Nat) (l1 : List (List Int)) (a2_0 : Int) (a2_1 : Int) (r : List Int) (w : World) (hs1 : Kd.V (Kd.slice 5 (Kd.int .u8)) 27 w w.heap.size (fun k_ => P1_ k_) (.slice A1 l1.length c1) l1) (h : spec_RootOf.f k a0_0 a0_1 a0_2 a0_3 a0_4 a0_5 l1 a2_0 a2_1 = some r) :
    Calls Tryd.prog 72 #[.agg #[.int .i64 a0_0, .int .i64 a0_1, .int .i64 a0_2, .int .u64 a0_3, .int .u64 a0_4, .int .u64 a0_5], .slice A1 l1.length c1, .agg #[.int .u64 a2_0, .int .u64 a2_1]] w fun e w' => ∃ v0_ : Value, e = .returned (v0_) ∧ Kd.V (Kd.int .u8) 5 w' w.heap.size (fun k_ => (P1_ k_ ∨ w.heap.size ≤ k_)) v0_ r ∧ Below w.heap.size w w' := by
  have hu24 := Tryd.underlying24
  have hu53 := Tryd.underlying53
  have HO1 := Aside0.mk (show Kd.V (Kd.slice 5 (Kd.int .u8)) 27 w w.heap.size (fun k_ => (P1_ k_ ∨ w.heap.size ≤ k_)) (.slice A1 l1.length c1) l1 from Kd.V_mono hs1 (fun k_ hk => .inl hk))
  have HB := Aside0.mk (Below.refl w.heap.size w)
  have H : (if 0 ≤ a2_0 then (if a2_0 ≤ a2_1 then (if a2_1 ≤ (l1.length : Int) then ((spec_Root.f k a0_0 a0_1 a0_2 a0_3 a0_4 a0_5 ((l1.take (a2_1 : Int).toNat).drop (a2_0 : Int).toNat)).bind fun t490 => (some t490)) else (none)) else (none)) else (none)) = some r := h
  clear h
  by_cases c4 : 0 ≤ a2_0
  · rw [if_pos c4] at H
    have c4b0 := eq_true c4
    have c4b1 : decide (0 ≤ a2_0) = true := decide_eq_true c4
    clear c4
    by_cases c5 : a2_0 ≤ a2_1
    · rw [if_pos c5] at H
      have c5b0 := eq_true c5
      have c5b1 : decide (a2_0 ≤ a2_1) = true := decide_eq_true c5
      clear c5
      by_cases c6 : a2_1 ≤ (l1.length : Int)
      · rw [if_pos c6] at H
        have c6b0 := eq_true c6
        have c6b1 : decide (a2_1 ≤ (l1.length : Int)) = true := decide_eq_true c6
        clear c6
        obtain ⟨y485, hy485⟩ : ∃ y_ : List (List Int), y_ = ((l1.take (a2_1 : Int).toNat).drop (a2_0 : Int).toNat) := ⟨_, rfl⟩
        replace H : ((spec_Root.f k a0_0 a0_1 a0_2 a0_3 a0_4 a0_5 y485).bind fun t490 => (some t490)) = some r := by first | (rw [hy485]; with_reducible exact H) | (have H2_ := (Option.bind_some _ _).symm.trans H; rw [hy485]; with_reducible exact H2_) | (have H2_ := (Option.bind_some _ _).symm.trans H; with_reducible exact H2_) | with_reducible exact H | (rw [hy485]; exact H) | exact H
        have Ny485 := Aside0.mk hy485
        clear hy485
        replace H := Option.bind_eq_some_iff.mp H
        obtain ⟨t490, A70, H⟩ := H
        replace H : (some t490) = some r := H
        have A7 := Aside0.mk A70
        clear A70
        obtain rfl := Option.some.inj H
        go_enter Tryd.func72, Tryd.ntmps72
        try go_wp2_with (first | ((with_reducible refine gate_dst (N := 3) rfl ?_); refine box_event ?hg (N := 3) ?hd (cs := #[.int .i64 a0_0, .int .i64 a0_1, .int .i64 a0_2, .int .u64 a0_3, .int .u64 a0_4, .int .u64 a0_5]) (t := 24) ?hr ?_; (case hd => rfl); (case hg => rfl); (case hr => first | (go_simp; done) | (go_simp; rfl)); intro gb483 hg w8 hbox hb; have n0_ := Aside0.mk (Kd.V_below (Kd.V_elderB (by (with_reducible repeat (first | apply Kd.V_alloc | apply Kd.V_drewN | apply Kd.V_drew)); exact HO1.out) gb483 (Nat.le_of_eq hg.symm)) hb); have n1_ := Aside0.mk (below_step (by repeat (first | (with_reducible first | exact HB.out | apply below_alloc | apply pw_below_drewN | apply below_drew1) | exact HB.out)) hb); have n2_ := Aside0.mk (hbox); have n3_ := Aside0.mk ((by rw [hg]; exact (below_size (by repeat (first | (with_reducible first | exact HB.out | apply below_alloc | apply pw_below_drewN | apply below_drew1) | exact HB.out))) : w.heap.size ≤ gb483)); have n4_ := Aside0.mk ((by rw [hg]; exact (below_size (by repeat (first | (with_reducible first | exact HB.out | apply below_alloc | apply pw_below_drewN | apply below_drew1) | exact HB.out))) : w.heap.size ≤ gb483)); clear HO1; clear HB; have HO1 := n0_; have HB := n1_; have BK483 := n2_; have GW483 := n3_; have GE483 := n4_; clear n0_ n1_ n2_ n3_ n4_; clear hb hbox hg) | ((with_reducible refine gate_dst (N := 5) rfl ?_); refine box_event ?hg (N := 5) ?hd (cs := #[.int .u64 a2_0, .int .u64 a2_1]) (t := 53) ?hr ?_; (case hd => rfl); (case hg => rfl); (case hr => first | (go_simp; done) | (go_simp; rfl)); intro gb484 hg w9 hbox hb; have n0_ := Aside0.mk (Kd.V_below (Kd.V_elderB (by (with_reducible repeat (first | apply Kd.V_alloc | apply Kd.V_drewN | apply Kd.V_drew)); exact HO1.out) gb484 (Nat.le_of_eq hg.symm)) hb); have n1_ := Aside0.mk (blk_below (g := gb483) (o := .cells #[.int .i64 a0_0, .int .i64 a0_1, .int .i64 a0_2, .int .u64 a0_3, .int .u64 a0_4, .int .u64 a0_5] 24 (0, 0)) (by (with_reducible repeat (first | refine blk_drewN ?_ _ | refine blk_drew ?_ | refine blk_alloc ?_ _)); exact BK483.out) hb); have n2_ := Aside0.mk (below_step (by repeat (first | (with_reducible first | exact HB.out | apply below_alloc | apply pw_below_drewN | apply below_drew1 | refine below_set ?_ GE483.out) | exact HB.out)) hb); have n3_ := Aside0.mk (hbox); have n4_ := Aside0.mk ((by rw [hg]; exact (below_size (by repeat (first | (with_reducible first | exact HB.out | apply below_alloc | apply pw_below_drewN | apply below_drew1 | refine below_set ?_ GE483.out) | exact HB.out))) : w.heap.size ≤ gb484)); have n5_ := Aside0.mk ((by rw [hg]; exact (below_size (by repeat (first | (with_reducible first | exact HB.out | apply below_alloc | apply pw_below_drewN | apply below_drew1 | refine below_set ?_ GE483.out) | exact HB.out))) : w.heap.size ≤ gb484)); have n6_ := Aside0.mk ((by rw [hg]; exact Nat.ne_of_lt (blk_lt (g := gb483) (o := .cells #[.int .i64 a0_0, .int .i64 a0_1, .int .i64 a0_2, .int .u64 a0_3, .int .u64 a0_4, .int .u64 a0_5] 24 (0, 0)) (by (with_reducible repeat (first | refine blk_drewN ?_ _ | refine blk_drew ?_ | refine blk_alloc ?_ _)); exact BK483.out)) : gb483 ≠ gb484)); have n7_ := Aside0.mk ((by rw [hg]; exact Nat.ne_of_gt (blk_lt (g := gb483) (o := .cells #[.int .i64 a0_0, .int .i64 a0_1, .int .i64 a0_2, .int .u64 a0_3, .int .u64 a0_4, .int .u64 a0_5] 24 (0, 0)) (by (with_reducible repeat (first | refine blk_drewN ?_ _ | refine blk_drew ?_ | refine blk_alloc ?_ _)); exact BK483.out)) : gb484 ≠ gb483)); clear HO1; clear BK483; clear HB; have HO1 := n0_; have BK483 := n1_; have HB := n2_; have BK484 := n3_; have GW484 := n4_; have GE484 := n5_; have NB483_484 := n6_; have NB484_483 := n7_; clear n0_ n1_ n2_ n3_ n4_ n5_ n6_ n7_; clear hb hbox hg))
        (try (rw [drewN_self w9]; generalize hq_ : World.drewN w9 _ = w9; have n0_ : Aside0 (Kd.V (Kd.slice 5 (Kd.int .u8)) 27 w9 w.heap.size (fun k_ => (P1_ k_ ∨ w.heap.size ≤ k_) ∧ k_ ≠ gb483 ∧ k_ ≠ gb484) (.slice A1 l1.length c1) l1) := ⟨by rw [← hq_]; exact (by (with_reducible repeat (first | apply Kd.V_alloc | apply Kd.V_drewN | apply Kd.V_drew)); exact Kd.V_mono HO1.out (fun _ hk => ⟨hk.1.1, ⟨hk.1.2, hk.2⟩⟩))⟩; have n1_ : Aside0 (w9.heap[gb483]? = some (.cells #[.int .i64 a0_0, .int .i64 a0_1, .int .i64 a0_2, .int .u64 a0_3, .int .u64 a0_4, .int .u64 a0_5] 24 (0, 0))) := ⟨by rw [← hq_]; exact (by (with_reducible repeat (first | refine blk_drewN ?_ _ | refine blk_drew ?_ | refine blk_alloc ?_ _)); exact BK483.out)⟩; have n2_ : Aside0 (w9.heap[gb484]? = some (.cells #[.int .u64 a2_0, .int .u64 a2_1] 53 (0, 0))) := ⟨by rw [← hq_]; exact (by (with_reducible repeat (first | refine blk_drewN ?_ _ | refine blk_drew ?_ | refine blk_alloc ?_ _)); exact BK484.out)⟩; have n3_ : Aside0 (Below w.heap.size w w9) := ⟨by rw [← hq_]; exact (by repeat (first | (with_reducible first | exact HB.out | apply below_alloc | apply pw_below_drewN | apply below_drew1 | refine below_set ?_ GE483.out | refine below_set ?_ GE484.out) | exact HB.out))⟩; clear HO1 BK483 BK484 HB hq_; have HO1 := n0_; have BK483 := n1_; have BK484 := n2_; have HB := n3_; clear n0_ n1_ n2_ n3_))
        have n0_ := Aside0.mk (Kd.V_drew HO1.out)
        have n1_ := Aside0.mk (blk_drew BK483.out)
        have n2_ := Aside0.mk (blk_drew BK484.out)
        have n3_ := Aside0.mk (below_drew1 HB.out)
        clear HO1
        clear BK483
        clear BK484
        clear HB
        have HO1 := n0_
        have BK483 := n1_
        have BK484 := n2_
        have HB := n3_
        clear n0_ n1_ n2_ n3_
        have q11 : (a2_1 : Int) ≤ ((l1.length : Int) : Int) := of_decide_eq_true (by first | (with_reducible assumption) | assumption)
        obtain ⟨i011, hi011, _, hsz11, _⟩ := info_parts info27
        have hroom11 : l1.length ≤ c1 := (Kd.V_reads' HO1.out).2.1
        have hC11 : Kd.F (Kd.slice 5 (Kd.int .u8)) _ _ A1 l1.length l1 := (Kd.V_at (base := w.heap.size) HO1.out).2.2
        have ql11 : (a2_0 : Int) ≤ (a2_1 : Int) := of_decide_eq_true (by first | (with_reducible assumption) | assumption)
        have q011 : (0 : Int) ≤ (a2_0 : Int) := of_decide_eq_true (by first | (with_reducible assumption) | assumption)
        have hcut11 := cut_mid (P := Tryd.prog) 25 27 .i64 .i64 Tryd.underlying25 hi011 1 hsz11 A1 l1.length c1 a2_0 a2_1 q011 ql11 q11 hroom11
        have hcut11u := cut_mid (P := Tryd.prog) 25 27 .u64 .u64 Tryd.underlying25 hi011 1 hsz11 A1 l1.length c1 a2_0 a2_1 q011 ql11 q11 hroom11
        have hr11 := Kd.F_mid (lo := (a2_0 : Int).toNat) (hi := (a2_1 : Int).toNat) (c := c1) hC11 (by omega) (by omega) hroom11
        obtain ⟨A11, hA11⟩ : ∃ A1_, A1_ = (if c1 = (a2_0 : Int).toNat then A1 else (A1 : Option Addr).map (·.add ((a2_0 : Int).toNat * 1))) := ⟨_, rfl⟩
        obtain ⟨c11, hc11⟩ : ∃ c1_, c1_ = c1 - (a2_0 : Int).toNat := ⟨_, rfl⟩
        have hy11 : y485.length = (a2_1 : Int).toNat - (a2_0 : Int).toNat := (by rw [Ny485.out, List.length_drop, List.length_take] <;> omega)
        rw [show ((l1).take (a2_1 : Int).toNat).drop (a2_0 : Int).toNat = y485 from Ny485.out.symm] at hr11
        replace hr11 : Kd.F (Kd.slice 5 (Kd.int .u8)) _ _ A11 y485.length y485 := (by rw [hA11]; exact hr11)
        rw [← hy11, ← hA11, ← hc11] at hcut11 hcut11u
        have HO489 := Aside0.mk (show Kd.V (Kd.slice 5 (Kd.int .u8)) 27 _ w.heap.size _ (.slice A11 y485.length c11) y485 from Kd.V_mk (by rw [hy11, hc11]; exact Nat.sub_le_sub_right (Nat.le_trans (by omega) hroom11) _) hr11)
        have HC489 := Aside0.mk (show y485.length ≤ c11 from by rw [hy11, hc11]; exact Nat.sub_le_sub_right (Nat.le_trans (by omega) hroom11) _)
        clear hr11 hC11 hroom11 hi011 hsz11 hc11
        have KY11 := Aside0.mk hy11
        have KA11 := Aside0.mk hA11
        clear hy11 hA11
        replace q11 := eq_true q11
        refine start_ (n := 9) (S := fun w' => w'.cell? ⟨gb483, 0, none⟩ = some (.int .i64 a0_0) ∧ w'.cell? ⟨gb483, 1, none⟩ = some (.int .i64 a0_1) ∧ w'.cell? ⟨gb483, 2, none⟩ = some (.int .i64 a0_2) ∧ w'.cell? ⟨gb483, 3, none⟩ = some (.int .u64 a0_3) ∧ w'.cell? ⟨gb483, 4, none⟩ = some (.int .u64 a0_4) ∧ w'.cell? ⟨gb483, 5, none⟩ = some (.int .u64 a0_5) ∧ w'.cell? ⟨gb484, 0, none⟩ = some (.int .u64 a2_0) ∧ w'.cell? ⟨gb484, 1, none⟩ = some (.int .u64 a2_1)) (ds := []) #[false, false, false, false, false, false, false, false, false] (by kernel_rfl) rfl rfl ⟨(blk_cell BK483.out 0).trans rfl, (blk_cell BK483.out 1).trans rfl, (blk_cell BK483.out 2).trans rfl, (blk_cell BK483.out 3).trans rfl, (blk_cell BK483.out 4).trans rfl, (blk_cell BK483.out 5).trans rfl, (blk_cell BK484.out 0).trans rfl, (blk_cell BK484.out 1).trans rfl⟩ (fun hHeld => ?_); refine with_tabW spec_RootOf.tab1 spec_RootOf.bits1 (fun HT_ HW_ => ?_)
        generalize w9.drew = w10 at HO1 BK483 BK484 HB HO489 hHeld ⊢
        refine pure_ (i := 1) (N := some 8) (v := ?_) (a' := ?_) #[false, true, false, false, false, false, false, false, false] rfl rfl (any_of HT_.out (by kernel_rfl)) (fun _ _ _ h => h) (Or.inl ⟨by rfl, ?_⟩) ?_ ?_
        rotate_left
        · intro w'
          go_simp
          with_reducible rfl
        rotate_left
        · simp only [Act.put, List.setIfInBounds_toArray, List.set_cons_zero, List.set_cons_succ, i64_w, i32_w]
          rfl
        refine pure_ (i := 2) (N := some 9) (v := ?_) (a' := ?_) #[false, true, true, false, false, false, false, false, false] rfl rfl (any_of HT_.out (by kernel_rfl)) (fun _ _ _ h => h) (Or.inl ⟨by rfl, ?_⟩) ?_ ?_
        rotate_left
        · intro w'
          go_simp
          with_reducible rfl
        rotate_left
        · simp only [Act.put, List.setIfInBounds_toArray, List.set_cons_zero, List.set_cons_succ, i64_w, i32_w]
          rfl
        refine pure_ (i := 4) (N := some 11) (v := ?_) (a' := ?_) #[false, true, true, false, true, false, false, false, false] rfl rfl (any_of HT_.out (by kernel_rfl)) (fun _ _ _ h => h) (Or.inl ⟨by rfl, ?_⟩) ?_ ?_
        rotate_left
        · intro w'
          go_simp
          with_reducible rfl
        rotate_left
        · simp only [Act.put, List.setIfInBounds_toArray, List.set_cons_zero, List.set_cons_succ, i64_w, i32_w]
          rfl
        refine take_ (i := 0) (N := some 7) (v := ?_) (a' := ?_) #[true, true, true, false, true, false, false, false, false] rfl rfl (take_ofW HT_.out HW_.out (by kernel_rfl)) (fun _ _ _ h => h) (Or.inl ⟨by rfl, ?_⟩) hHeld ?_ ?_
        rotate_left
        · rintro w' ⟨s0, s1, s2, s3, s4, s5, s6, s7⟩
          go_simp
          with_reducible rfl
        rotate_left
        · simp only [Act.put, List.setIfInBounds_toArray, List.set_cons_zero, List.set_cons_succ, i64_w, i32_w]
          rfl
        refine take_ (i := 3) (N := some 10) (v := ?_) (a' := ?_) #[true, true, true, true, true, false, false, false, false] rfl rfl (take_ofW HT_.out HW_.out (by kernel_rfl)) (fun _ _ _ h => h) (Or.inl ⟨by rfl, ?_⟩) hHeld ?_ ?_
        rotate_left
        · rintro w' ⟨s0, s1, s2, s3, s4, s5, s6, s7⟩
          go_simp
          with_reducible rfl
        rotate_left
        · simp only [Act.put, List.setIfInBounds_toArray, List.set_cons_zero, List.set_cons_succ, i64_w, i32_w]
          rfl
        refine take_ (i := 5) (N := some 12) (v := ?_) (a' := ?_) #[true, true, true, true, true, true, false, false, false] rfl rfl (take_ofW HT_.out HW_.out (by kernel_rfl)) (fun _ _ _ h => h) (Or.inl ⟨by rfl, ?_⟩) hHeld ?_ ?_
        rotate_left
        · rintro w' ⟨s0, s1, s2, s3, s4, s5, s6, s7⟩
          go_simp
          with_reducible rfl
        rotate_left
        · simp only [Act.put, List.setIfInBounds_toArray, List.set_cons_zero, List.set_cons_succ, i64_w, i32_w]
          rfl
        refine pure_ (i := 6) (N := some 13) (v := ?_) (a' := ?_) #[true, true, true, true, true, true, true, false, false] rfl rfl (any_of HT_.out (by kernel_rfl)) (fun _ _ _ h => h) (Or.inl ⟨by rfl, ?_⟩) ?_ ?_
        rotate_left
        · intro w'
          go_simp
          with_reducible rfl
        rotate_left
        · simp only [Act.put, List.setIfInBounds_toArray, List.set_cons_zero, List.set_cons_succ, i64_w, i32_w]
          rfl
        refine one_ (i := 7) (N := some 14) #[true, true, true, true, true, true, true, true, false] rfl rfl (one_of HT_.out (by kernel_rfl)) (by decide) (fun K hK => ?_)
        refine goes_ Tryd.func16 (by kernel_rfl) rfl #[.agg #[.int .i64 a0_0, .int .i64 a0_1, .int .i64 a0_2, .int .u64 a0_3, .int .u64 a0_4, .int .u64 a0_5], .slice A11 y485.length c11] (by rfl) rfl rfl (by (try simp only [List.map_toArray, List.map_cons, List.map_nil]); first | done | rfl | (simp only [List.length_drop, List.length_take]; rfl)) ?_
        with_reducible refine (spec_Root.calls k a0_0 a0_1 a0_2 a0_3 a0_4 a0_5 (fun k_ => (((P1_ k_ ∨ w.heap.size ≤ k_) ∧ k_ ≠ gb483) ∧ k_ ≠ gb484)) _ _ y485 t490 _ ?side1 A7.out).mono ?_
        (case side1 => exact HO489.out)
        rintro e w12 ⟨v491, rfl, ho0, hb⟩
        refine ⟨_, rfl, ?_⟩
        have n0_ := Aside0.mk (Kd.V_below (by (with_reducible repeat (first | apply Kd.V_alloc | apply Kd.V_drewN | apply Kd.V_drew)); exact HO1.out) hb)
        have n1_ := Aside0.mk (Kd.V_below (by (with_reducible repeat (first | apply Kd.V_alloc | apply Kd.V_drewN | apply Kd.V_drew)); exact HO489.out) hb)
        have n2_ := Aside0.mk (Kd.V_lower (Kd.V_mono (ok' := fun k_ => (P1_ k_ ∨ w.heap.size ≤ k_) ∧ k_ ≠ gb483 ∧ k_ ≠ gb484) ho0 (fun k_ hk_ => ⟨Or.elim hk_ (fun hs_ => hs_.1.1) (fun hn_ => (.inr (Nat.le_trans (below_size (by repeat (first | (with_reducible first | exact HB.out | apply below_alloc | apply pw_below_drewN | apply below_drew1 | refine below_set ?_ GE483.out | refine below_set ?_ GE484.out) | exact HB.out))) hn_))), Or.elim hk_ (fun hs_ => hs_.1.2) (fun hn_ => (Kd.freshB (g := gb483) (o := .cells #[.int .i64 a0_0, .int .i64 a0_1, .int .i64 a0_2, .int .u64 a0_3, .int .u64 a0_4, .int .u64 a0_5] 24 (0, 0)) (by (with_reducible repeat (first | refine blk_drewN ?_ _ | refine blk_drew ?_ | refine blk_alloc ?_ _)); exact BK483.out) k_ hn_)), Or.elim hk_ (fun hs_ => hs_.2) (fun hn_ => (Kd.freshB (g := gb484) (o := .cells #[.int .u64 a2_0, .int .u64 a2_1] 53 (0, 0)) (by (with_reducible repeat (first | refine blk_drewN ?_ _ | refine blk_drew ?_ | refine blk_alloc ?_ _)); exact BK484.out) k_ hn_))⟩)) (below_size (by repeat (first | (with_reducible first | exact HB.out | apply below_alloc | apply pw_below_drewN | apply below_drew1 | refine below_set ?_ GE483.out | refine below_set ?_ GE484.out) | exact HB.out))))
        have n3_ := Aside0.mk (blk_below (g := gb483) (o := .cells #[.int .i64 a0_0, .int .i64 a0_1, .int .i64 a0_2, .int .u64 a0_3, .int .u64 a0_4, .int .u64 a0_5] 24 (0, 0)) (by (with_reducible repeat (first | refine blk_drewN ?_ _ | refine blk_drew ?_ | refine blk_alloc ?_ _)); exact BK483.out) hb)
        have n4_ := Aside0.mk (blk_below (g := gb484) (o := .cells #[.int .u64 a2_0, .int .u64 a2_1] 53 (0, 0)) (by (with_reducible repeat (first | refine blk_drewN ?_ _ | refine blk_drew ?_ | refine blk_alloc ?_ _)); exact BK484.out) hb)
        have n5_ := Aside0.mk (below_step (by repeat (first | (with_reducible first | exact HB.out | apply below_alloc | apply pw_below_drewN | apply below_drew1 | refine below_set ?_ GE483.out | refine below_set ?_ GE484.out) | exact HB.out)) hb)
        clear HO1
        clear HO489
        clear BK483
        clear BK484
        clear HB
        have HO1 := n0_
        have HO489 := n1_
        have HO492 := n2_
        have BK483 := n3_
        have BK484 := n4_
        have HB := n5_
        clear n0_ n1_ n2_ n3_ n4_ n5_
        (try clear hb)
        (try clear hb2)
        (try clear hk)
        (try clear hi)
        (try clear ho0)
        refine hK.out _ _ ⟨(blk_cell BK483.out 0).trans rfl, (blk_cell BK483.out 1).trans rfl, (blk_cell BK483.out 2).trans rfl, (blk_cell BK483.out 3).trans rfl, (blk_cell BK483.out 4).trans rfl, (blk_cell BK483.out 5).trans rfl, (blk_cell BK484.out 0).trans rfl, (blk_cell BK484.out 1).trans rfl⟩ (fun hHeld => ?_)
        clear hK K
        refine norm_ (a' := ?_) ?_ ?_
        rotate_left
        · show Act.put _ (some 14) _ = _
          simp only [Act.put, List.setIfInBounds_toArray, List.set_cons_zero, List.set_cons_succ, i64_w, i32_w]
          rfl
        refine pure_ (i := 8) (N := some 6) (v := ?_) (a' := ?_) #[true, true, true, true, true, true, true, true, true] rfl rfl (any_of HT_.out (by kernel_rfl)) (fun _ _ _ h => h) (Or.inl ⟨by rfl, ?_⟩) ?_ ?_
        rotate_left
        · intro w'
          go_simp
          with_reducible rfl
        rotate_left
        · simp only [Act.put, List.setIfInBounds_toArray, List.set_cons_zero, List.set_cons_succ, i64_w, i32_w]
          rfl
        refine done_ (done_of HT_.out (by kernel_rfl)) ?_
        try go_wp2
        go_ret
        exact ⟨_, by first | rfl | (simp [errW_none, errW_some] <;> rfl) | (simp [*, errW_none, errW_some] <;> rfl), by (with_reducible repeat (first | apply Kd.V_alloc | apply Kd.V_drewN | apply Kd.V_drew)); exact Kd.V_mono HO492.out (fun _ hk => hk.1), by repeat (first | (with_reducible first | exact HB.out | apply below_alloc | apply pw_below_drewN | apply below_drew1 | refine below_set ?_ GE483.out | refine below_set ?_ GE484.out) | exact HB.out)⟩
      · rw [if_neg c6] at H
        exact absurd H (by simp)
    · rw [if_neg c5] at H
      exact absurd H (by simp)
  · rw [if_neg c4] at H
    exact absurd H (by simp)
def spec_NodeHash.f (k : Nat) (a0_0 : Int) (a0_1 : Int) (a0_2 : Int) (a0_3 : Int) (a0_4 : Int) (a0_5 : Int) (l1 : List (List Int)) (a2_0 : Int) (a2_1 : Int) : Option (List Int) := (spec_Leaves.f a2_0 a2_1).bind fun bt495 => ((spec_RootOf.f k a0_0 a0_1 a0_2 a0_3 a0_4 a0_5 l1 bt495.1 bt495.2).bind fun t497 => (some t497))
theorem spec_NodeHash.mono : ∀ a0 a1 a2 a3 a4 a5 a6 a7 a8 k, LeO (spec_NodeHash.f k a0 a1 a2 a3 a4 a5 a6 a7 a8) (spec_NodeHash.f (k + 1) a0 a1 a2 a3 a4 a5 a6 a7 a8) := by
  intro a0 a1 a2 a3 a4 a5 a6 a7 a8 k
  unfold spec_NodeHash.f
  repeat' first
      | (with_reducible exact spec_RootOf.mono _ _ _ _ _ _ _ _ _ _)
      | (with_reducible exact LeO.refl _)
      | (with_reducible exact LeO.none _)
      | (with_reducible refine LeO.ite ?_ ?_)
      | (with_reducible refine LeO.bind ?_ (fun _ => ?_))
      | exact spec_RootOf.mono _ _ _ _ _ _ _ _ _ _
      | exact LeO.none _
      | refine LeO.ite ?_ ?_
      | refine LeO.bind ?_ (fun _ => ?_)
set_option maxHeartbeats 8000000 in
set_option maxRecDepth 100000 in
theorem spec_NodeHash.calls (k : Nat) (a0_0 : Int) (a0_1 : Int) (a0_2 : Int) (a0_3 : Int) (a0_4 : Int) (a0_5 : Int) (P1_ : Nat → Prop) (A1 : Option Addr) (c1 : Nat) (l1 : List (List Int)) (a2_0 : Int) (a2_1 : Int) (r : List Int) (w : World) (hs1 : Kd.V (Kd.slice 5 (Kd.int .u8)) 27 w w.heap.size (fun k_ => P1_ k_) (.slice A1 l1.length c1) l1) (h : spec_NodeHash.f k a0_0 a0_1 a0_2 a0_3 a0_4 a0_5 l1 a2_0 a2_1 = some r) :
    Calls Tryd.prog 32 #[.agg #[.int .i64 a0_0, .int .i64 a0_1, .int .i64 a0_2, .int .u64 a0_3, .int .u64 a0_4, .int .u64 a0_5], .slice A1 l1.length c1, .agg #[.int .u64 a2_0, .int .u64 a2_1]] w fun e w' => ∃ v0_ : Value, e = .returned (v0_) ∧ Kd.V (Kd.int .u8) 5 w' w.heap.size (fun k_ => (P1_ k_ ∨ w.heap.size ≤ k_)) v0_ r ∧ Below w.heap.size w w' := by
  have hu24 := Tryd.underlying24
  have hu49 := Tryd.underlying49
  have HO1 := Aside0.mk (show Kd.V (Kd.slice 5 (Kd.int .u8)) 27 w w.heap.size (fun k_ => (P1_ k_ ∨ w.heap.size ≤ k_)) (.slice A1 l1.length c1) l1 from Kd.V_mono hs1 (fun k_ hk => .inl hk))
  have HB := Aside0.mk (Below.refl w.heap.size w)
  have H : ((spec_Leaves.f a2_0 a2_1).bind fun bt495 => ((spec_RootOf.f k a0_0 a0_1 a0_2 a0_3 a0_4 a0_5 l1 bt495.1 bt495.2).bind fun t497 => (some t497))) = some r := h
  clear h
  replace H := Option.bind_eq_some_iff.mp H
  obtain ⟨⟨t495, t496⟩, A40, H⟩ := H
  replace H : ((spec_RootOf.f k a0_0 a0_1 a0_2 a0_3 a0_4 a0_5 l1 t495 t496).bind fun t497 => (some t497)) = some r := H
  have A4 := Aside0.mk A40
  clear A40
  replace H := Option.bind_eq_some_iff.mp H
  obtain ⟨t497, A50, H⟩ := H
  replace H : (some t497) = some r := H
  have A5 := Aside0.mk A50
  clear A50
  obtain rfl := Option.some.inj H
  go_enter Tryd.func32, Tryd.ntmps32
  try go_wp2_with (first | ((with_reducible refine gate_dst (N := 3) rfl ?_); refine box_event ?hg (N := 3) ?hd (cs := #[.int .i64 a0_0, .int .i64 a0_1, .int .i64 a0_2, .int .u64 a0_3, .int .u64 a0_4, .int .u64 a0_5]) (t := 24) ?hr ?_; (case hd => rfl); (case hg => rfl); (case hr => first | (go_simp; done) | (go_simp; rfl)); intro gb493 hg w6 hbox hb; have n0_ := Aside0.mk (Kd.V_below (Kd.V_elderB (by (with_reducible repeat (first | apply Kd.V_alloc | apply Kd.V_drewN | apply Kd.V_drew)); exact HO1.out) gb493 (Nat.le_of_eq hg.symm)) hb); have n1_ := Aside0.mk (below_step (by repeat (first | (with_reducible first | exact HB.out | apply below_alloc | apply pw_below_drewN | apply below_drew1) | exact HB.out)) hb); have n2_ := Aside0.mk (hbox); have n3_ := Aside0.mk ((by rw [hg]; exact (below_size (by repeat (first | (with_reducible first | exact HB.out | apply below_alloc | apply pw_below_drewN | apply below_drew1) | exact HB.out))) : w.heap.size ≤ gb493)); have n4_ := Aside0.mk ((by rw [hg]; exact (below_size (by repeat (first | (with_reducible first | exact HB.out | apply below_alloc | apply pw_below_drewN | apply below_drew1) | exact HB.out))) : w.heap.size ≤ gb493)); clear HO1; clear HB; have HO1 := n0_; have HB := n1_; have BK493 := n2_; have GW493 := n3_; have GE493 := n4_; clear n0_ n1_ n2_ n3_ n4_; clear hb hbox hg) | ((with_reducible refine gate_dst (N := 5) rfl ?_); refine box_event ?hg (N := 5) ?hd (cs := #[.int .u64 a2_0, .int .u64 a2_1]) (t := 49) ?hr ?_; (case hd => rfl); (case hg => rfl); (case hr => first | (go_simp; done) | (go_simp; rfl)); intro gb494 hg w7 hbox hb; have n0_ := Aside0.mk (Kd.V_below (Kd.V_elderB (by (with_reducible repeat (first | apply Kd.V_alloc | apply Kd.V_drewN | apply Kd.V_drew)); exact HO1.out) gb494 (Nat.le_of_eq hg.symm)) hb); have n1_ := Aside0.mk (blk_below (g := gb493) (o := .cells #[.int .i64 a0_0, .int .i64 a0_1, .int .i64 a0_2, .int .u64 a0_3, .int .u64 a0_4, .int .u64 a0_5] 24 (0, 0)) (by (with_reducible repeat (first | refine blk_drewN ?_ _ | refine blk_drew ?_ | refine blk_alloc ?_ _)); exact BK493.out) hb); have n2_ := Aside0.mk (below_step (by repeat (first | (with_reducible first | exact HB.out | apply below_alloc | apply pw_below_drewN | apply below_drew1 | refine below_set ?_ GE493.out) | exact HB.out)) hb); have n3_ := Aside0.mk (hbox); have n4_ := Aside0.mk ((by rw [hg]; exact (below_size (by repeat (first | (with_reducible first | exact HB.out | apply below_alloc | apply pw_below_drewN | apply below_drew1 | refine below_set ?_ GE493.out) | exact HB.out))) : w.heap.size ≤ gb494)); have n5_ := Aside0.mk ((by rw [hg]; exact (below_size (by repeat (first | (with_reducible first | exact HB.out | apply below_alloc | apply pw_below_drewN | apply below_drew1 | refine below_set ?_ GE493.out) | exact HB.out))) : w.heap.size ≤ gb494)); have n6_ := Aside0.mk ((by rw [hg]; exact Nat.ne_of_lt (blk_lt (g := gb493) (o := .cells #[.int .i64 a0_0, .int .i64 a0_1, .int .i64 a0_2, .int .u64 a0_3, .int .u64 a0_4, .int .u64 a0_5] 24 (0, 0)) (by (with_reducible repeat (first | refine blk_drewN ?_ _ | refine blk_drew ?_ | refine blk_alloc ?_ _)); exact BK493.out)) : gb493 ≠ gb494)); have n7_ := Aside0.mk ((by rw [hg]; exact Nat.ne_of_gt (blk_lt (g := gb493) (o := .cells #[.int .i64 a0_0, .int .i64 a0_1, .int .i64 a0_2, .int .u64 a0_3, .int .u64 a0_4, .int .u64 a0_5] 24 (0, 0)) (by (with_reducible repeat (first | refine blk_drewN ?_ _ | refine blk_drew ?_ | refine blk_alloc ?_ _)); exact BK493.out)) : gb494 ≠ gb493)); clear HO1; clear BK493; clear HB; have HO1 := n0_; have BK493 := n1_; have HB := n2_; have BK494 := n3_; have GW494 := n4_; have GE494 := n5_; have NB493_494 := n6_; have NB494_493 := n7_; clear n0_ n1_ n2_ n3_ n4_ n5_ n6_ n7_; clear hb hbox hg))
  (try (rw [drewN_self w7]; generalize hq_ : World.drewN w7 _ = w7; have n0_ : Aside0 (Kd.V (Kd.slice 5 (Kd.int .u8)) 27 w7 w.heap.size (fun k_ => (P1_ k_ ∨ w.heap.size ≤ k_) ∧ k_ ≠ gb493 ∧ k_ ≠ gb494) (.slice A1 l1.length c1) l1) := ⟨by rw [← hq_]; exact (by (with_reducible repeat (first | apply Kd.V_alloc | apply Kd.V_drewN | apply Kd.V_drew)); exact Kd.V_mono HO1.out (fun _ hk => ⟨hk.1.1, ⟨hk.1.2, hk.2⟩⟩))⟩; have n1_ : Aside0 (w7.heap[gb493]? = some (.cells #[.int .i64 a0_0, .int .i64 a0_1, .int .i64 a0_2, .int .u64 a0_3, .int .u64 a0_4, .int .u64 a0_5] 24 (0, 0))) := ⟨by rw [← hq_]; exact (by (with_reducible repeat (first | refine blk_drewN ?_ _ | refine blk_drew ?_ | refine blk_alloc ?_ _)); exact BK493.out)⟩; have n2_ : Aside0 (w7.heap[gb494]? = some (.cells #[.int .u64 a2_0, .int .u64 a2_1] 49 (0, 0))) := ⟨by rw [← hq_]; exact (by (with_reducible repeat (first | refine blk_drewN ?_ _ | refine blk_drew ?_ | refine blk_alloc ?_ _)); exact BK494.out)⟩; have n3_ : Aside0 (Below w.heap.size w w7) := ⟨by rw [← hq_]; exact (by repeat (first | (with_reducible first | exact HB.out | apply below_alloc | apply pw_below_drewN | apply below_drew1 | refine below_set ?_ GE493.out | refine below_set ?_ GE494.out) | exact HB.out))⟩; clear HO1 BK493 BK494 HB hq_; have HO1 := n0_; have BK493 := n1_; have BK494 := n2_; have HB := n3_; clear n0_ n1_ n2_ n3_))
  have n0_ := Aside0.mk (Kd.V_drew HO1.out)
  have n1_ := Aside0.mk (blk_drew BK493.out)
  have n2_ := Aside0.mk (blk_drew BK494.out)
  have n3_ := Aside0.mk (below_drew1 HB.out)
  clear HO1
  clear BK493
  clear BK494
  clear HB
  have HO1 := n0_
  have BK493 := n1_
  have BK494 := n2_
  have HB := n3_
  clear n0_ n1_ n2_ n3_
  refine start_ (n := 6) (S := fun w' => w'.cell? ⟨gb493, 0, none⟩ = some (.int .i64 a0_0) ∧ w'.cell? ⟨gb493, 1, none⟩ = some (.int .i64 a0_1) ∧ w'.cell? ⟨gb493, 2, none⟩ = some (.int .i64 a0_2) ∧ w'.cell? ⟨gb493, 3, none⟩ = some (.int .u64 a0_3) ∧ w'.cell? ⟨gb493, 4, none⟩ = some (.int .u64 a0_4) ∧ w'.cell? ⟨gb493, 5, none⟩ = some (.int .u64 a0_5) ∧ w'.cell? ⟨gb494, 0, none⟩ = some (.int .u64 a2_0) ∧ w'.cell? ⟨gb494, 1, none⟩ = some (.int .u64 a2_1)) (ds := []) #[false, false, false, false, false, false] (by kernel_rfl) rfl rfl ⟨(blk_cell BK493.out 0).trans rfl, (blk_cell BK493.out 1).trans rfl, (blk_cell BK493.out 2).trans rfl, (blk_cell BK493.out 3).trans rfl, (blk_cell BK493.out 4).trans rfl, (blk_cell BK493.out 5).trans rfl, (blk_cell BK494.out 0).trans rfl, (blk_cell BK494.out 1).trans rfl⟩ (fun hHeld => ?_)
  generalize w7.drew = w8 at HO1 BK493 BK494 HB hHeld ⊢
  refine pure_ (i := 1) (N := some 8) (v := ?_) (a' := ?_) #[false, true, false, false, false, false] rfl rfl (by kernel_rfl) (fun _ _ _ h => h) (Or.inl ⟨by rfl, ?_⟩) ?_ ?_
  rotate_left
  · intro w'
    go_simp
    with_reducible rfl
  rotate_left
  · simp only [Act.put, List.setIfInBounds_toArray, List.set_cons_zero, List.set_cons_succ, i64_w, i32_w]
    rfl
  refine take_ (i := 0) (N := some 7) (v := ?_) (a' := ?_) #[true, true, false, false, false, false] rfl rfl (by kernel_rfl) (fun _ _ _ h => h) (Or.inl ⟨by rfl, ?_⟩) hHeld ?_ ?_
  rotate_left
  · rintro w' ⟨s0, s1, s2, s3, s4, s5, s6, s7⟩
    go_simp
    with_reducible rfl
  rotate_left
  · simp only [Act.put, List.setIfInBounds_toArray, List.set_cons_zero, List.set_cons_succ, i64_w, i32_w]
    rfl
  refine take_ (i := 2) (N := some 9) (v := ?_) (a' := ?_) #[true, true, true, false, false, false] rfl rfl (by kernel_rfl) (fun _ _ _ h => h) (Or.inl ⟨by rfl, ?_⟩) hHeld ?_ ?_
  rotate_left
  · rintro w' ⟨s0, s1, s2, s3, s4, s5, s6, s7⟩
    go_simp
    with_reducible rfl
  rotate_left
  · simp only [Act.put, List.setIfInBounds_toArray, List.set_cons_zero, List.set_cons_succ, i64_w, i32_w]
    rfl
  refine one_ (i := 3) (N := some 10) #[true, true, true, true, false, false] rfl rfl (by kernel_rfl) (by decide) (fun K hK => ?_)
  refine goes_ Tryd.func25 (by kernel_rfl) rfl #[.agg #[.int .u64 a2_0, .int .u64 a2_1]] (by rfl) rfl rfl (by (try simp only [List.map_toArray, List.map_cons, List.map_nil]); first | done | rfl | (simp only [List.length_drop, List.length_take]; rfl)) ?_
  with_reducible refine (spec_Leaves.calls a2_0 a2_1 t495 t496 _ A4.out).mono ?_
  rintro e w9 ⟨rfl, hb⟩
  refine ⟨_, rfl, ?_⟩
  have n0_ := Aside0.mk (Kd.V_below (by (with_reducible repeat (first | apply Kd.V_alloc | apply Kd.V_drewN | apply Kd.V_drew)); exact HO1.out) hb)
  have n1_ := Aside0.mk (blk_below (g := gb493) (o := .cells #[.int .i64 a0_0, .int .i64 a0_1, .int .i64 a0_2, .int .u64 a0_3, .int .u64 a0_4, .int .u64 a0_5] 24 (0, 0)) (by (with_reducible repeat (first | refine blk_drewN ?_ _ | refine blk_drew ?_ | refine blk_alloc ?_ _)); exact BK493.out) hb)
  have n2_ := Aside0.mk (blk_below (g := gb494) (o := .cells #[.int .u64 a2_0, .int .u64 a2_1] 49 (0, 0)) (by (with_reducible repeat (first | refine blk_drewN ?_ _ | refine blk_drew ?_ | refine blk_alloc ?_ _)); exact BK494.out) hb)
  have n3_ := Aside0.mk (below_step (by repeat (first | (with_reducible first | exact HB.out | apply below_alloc | apply pw_below_drewN | apply below_drew1 | refine below_set ?_ GE493.out | refine below_set ?_ GE494.out) | exact HB.out)) hb)
  clear HO1
  clear BK493
  clear BK494
  clear HB
  have HO1 := n0_
  have BK493 := n1_
  have BK494 := n2_
  have HB := n3_
  clear n0_ n1_ n2_ n3_
  (try clear hb)
  (try clear hb2)
  (try clear hk)
  (try clear hi)
  refine hK.out _ _ ⟨(blk_cell BK493.out 0).trans rfl, (blk_cell BK493.out 1).trans rfl, (blk_cell BK493.out 2).trans rfl, (blk_cell BK493.out 3).trans rfl, (blk_cell BK493.out 4).trans rfl, (blk_cell BK493.out 5).trans rfl, (blk_cell BK494.out 0).trans rfl, (blk_cell BK494.out 1).trans rfl⟩ (fun hHeld => ?_)
  clear hK K
  refine norm_ (a' := ?_) ?_ ?_
  rotate_left
  · show Act.put _ (some 10) _ = _
    simp only [Act.put, List.setIfInBounds_toArray, List.set_cons_zero, List.set_cons_succ, i64_w, i32_w]
    rfl
  refine one_ (i := 4) (N := some 11) #[true, true, true, true, true, false] rfl rfl (by kernel_rfl) (by decide) (fun K hK => ?_)
  refine goes_ Tryd.func72 (by kernel_rfl) rfl #[.agg #[.int .i64 a0_0, .int .i64 a0_1, .int .i64 a0_2, .int .u64 a0_3, .int .u64 a0_4, .int .u64 a0_5], .slice A1 l1.length c1, .agg #[.int .u64 t495, .int .u64 t496]] (by rfl) rfl rfl (by (try simp only [List.map_toArray, List.map_cons, List.map_nil]); first | done | rfl | (simp only [List.length_drop, List.length_take]; rfl)) ?_
  with_reducible refine (spec_RootOf.calls k a0_0 a0_1 a0_2 a0_3 a0_4 a0_5 (fun k_ => (((P1_ k_ ∨ w.heap.size ≤ k_) ∧ k_ ≠ gb493) ∧ k_ ≠ gb494)) _ _ l1 t495 t496 t497 _ ?side1 A5.out).mono ?_
  (case side1 => exact HO1.out)
  rintro e w10 ⟨v498, rfl, ho0, hb⟩
  refine ⟨_, rfl, ?_⟩
  have n0_ := Aside0.mk (Kd.V_below (by (with_reducible repeat (first | apply Kd.V_alloc | apply Kd.V_drewN | apply Kd.V_drew)); exact HO1.out) hb)
  have n1_ := Aside0.mk (Kd.V_lower (Kd.V_mono (ok' := fun k_ => (P1_ k_ ∨ w.heap.size ≤ k_) ∧ k_ ≠ gb493 ∧ k_ ≠ gb494) ho0 (fun k_ hk_ => ⟨Or.elim hk_ (fun hs_ => hs_.1.1) (fun hn_ => (.inr (Nat.le_trans (below_size (by repeat (first | (with_reducible first | exact HB.out | apply below_alloc | apply pw_below_drewN | apply below_drew1 | refine below_set ?_ GE493.out | refine below_set ?_ GE494.out) | exact HB.out))) hn_))), Or.elim hk_ (fun hs_ => hs_.1.2) (fun hn_ => (Kd.freshB (g := gb493) (o := .cells #[.int .i64 a0_0, .int .i64 a0_1, .int .i64 a0_2, .int .u64 a0_3, .int .u64 a0_4, .int .u64 a0_5] 24 (0, 0)) (by (with_reducible repeat (first | refine blk_drewN ?_ _ | refine blk_drew ?_ | refine blk_alloc ?_ _)); exact BK493.out) k_ hn_)), Or.elim hk_ (fun hs_ => hs_.2) (fun hn_ => (Kd.freshB (g := gb494) (o := .cells #[.int .u64 a2_0, .int .u64 a2_1] 49 (0, 0)) (by (with_reducible repeat (first | refine blk_drewN ?_ _ | refine blk_drew ?_ | refine blk_alloc ?_ _)); exact BK494.out) k_ hn_))⟩)) (below_size (by repeat (first | (with_reducible first | exact HB.out | apply below_alloc | apply pw_below_drewN | apply below_drew1 | refine below_set ?_ GE493.out | refine below_set ?_ GE494.out) | exact HB.out))))
  have n2_ := Aside0.mk (blk_below (g := gb493) (o := .cells #[.int .i64 a0_0, .int .i64 a0_1, .int .i64 a0_2, .int .u64 a0_3, .int .u64 a0_4, .int .u64 a0_5] 24 (0, 0)) (by (with_reducible repeat (first | refine blk_drewN ?_ _ | refine blk_drew ?_ | refine blk_alloc ?_ _)); exact BK493.out) hb)
  have n3_ := Aside0.mk (blk_below (g := gb494) (o := .cells #[.int .u64 a2_0, .int .u64 a2_1] 49 (0, 0)) (by (with_reducible repeat (first | refine blk_drewN ?_ _ | refine blk_drew ?_ | refine blk_alloc ?_ _)); exact BK494.out) hb)
  have n4_ := Aside0.mk (below_step (by repeat (first | (with_reducible first | exact HB.out | apply below_alloc | apply pw_below_drewN | apply below_drew1 | refine below_set ?_ GE493.out | refine below_set ?_ GE494.out) | exact HB.out)) hb)
  clear HO1
  clear BK493
  clear BK494
  clear HB
  have HO1 := n0_
  have HO499 := n1_
  have BK493 := n2_
  have BK494 := n3_
  have HB := n4_
  clear n0_ n1_ n2_ n3_ n4_
  (try clear hb)
  (try clear hb2)
  (try clear hk)
  (try clear hi)
  (try clear ho0)
  refine hK.out _ _ ⟨(blk_cell BK493.out 0).trans rfl, (blk_cell BK493.out 1).trans rfl, (blk_cell BK493.out 2).trans rfl, (blk_cell BK493.out 3).trans rfl, (blk_cell BK493.out 4).trans rfl, (blk_cell BK493.out 5).trans rfl, (blk_cell BK494.out 0).trans rfl, (blk_cell BK494.out 1).trans rfl⟩ (fun hHeld => ?_)
  clear hK K
  refine norm_ (a' := ?_) ?_ ?_
  rotate_left
  · show Act.put _ (some 11) _ = _
    simp only [Act.put, List.setIfInBounds_toArray, List.set_cons_zero, List.set_cons_succ, i64_w, i32_w]
    rfl
  refine pure_ (i := 5) (N := some 6) (v := ?_) (a' := ?_) #[true, true, true, true, true, true] rfl rfl (by kernel_rfl) (fun _ _ _ h => h) (Or.inl ⟨by rfl, ?_⟩) ?_ ?_
  rotate_left
  · intro w'
    go_simp
    with_reducible rfl
  rotate_left
  · simp only [Act.put, List.setIfInBounds_toArray, List.set_cons_zero, List.set_cons_succ, i64_w, i32_w]
    rfl
  refine done_ (by kernel_rfl) ?_
  try go_wp2
  go_ret
  exact ⟨_, by first | rfl | (simp [errW_none, errW_some] <;> rfl) | (simp [*, errW_none, errW_some] <;> rfl), by (with_reducible repeat (first | apply Kd.V_alloc | apply Kd.V_drewN | apply Kd.V_drew)); exact Kd.V_mono HO499.out (fun _ hk => hk.1), by repeat (first | (with_reducible first | exact HB.out | apply below_alloc | apply pw_below_drewN | apply below_drew1 | refine below_set ?_ GE493.out | refine below_set ?_ GE494.out) | exact HB.out)⟩
def spec_Path.l0 : Nat → List (List Int) → List (List Int) → List (S53) → Int → Int → Int → Int → Int → Int → Int → Int → Option ((List (List Int)))
  | 0, _, _, _, _, _, _, _, _, _, _, _ => none
  | k + 1, x1, x7, x14, x15, x16, x501000, x501001, x501002, x501003, x501004, x501005 => if x16 < x15 then (if 0 ≤ x16 then (if x16 < (x14.length : Int) then ((spec_RootOf.f k x501000 x501001 x501002 x501003 x501004 x501005 x1 ((rd_T53 x14 x16).f0) ((rd_T53 x14 x16).f1)).bind fun t506 => (if x7.length < 5864062014805 then (spec_Path.l0 k x1 (x7 ++ [t506]) x14 x15 (wrap64 (x16 + 1)) x501000 x501001 x501002 x501003 x501004 x501005) else (none))) else (none)) else (none)) else (some x7)
def spec_Path.f (k : Nat) (a0_0 : Int) (a0_1 : Int) (a0_2 : Int) (a0_3 : Int) (a0_4 : Int) (a0_5 : Int) (l1 : List (List Int)) (a2 : Int) : Option ((List (List Int))) := (spec_PathParts.f k a2 (IntKind.u64.wrap ((l1.length : Int)))).bind fun t501 => (spec_Path.l0 k l1 ([] : List (List Int)) t501 (t501.length : Int) 0 a0_0 a0_1 a0_2 a0_3 a0_4 a0_5)
theorem spec_Path.mono_l : ∀ k, (∀ y0 y1 y2 y3 y4 y5 y6 y7 y8 y9 y10, LeO (spec_Path.l0 k y0 y1 y2 y3 y4 y5 y6 y7 y8 y9 y10) (spec_Path.l0 (k + 1) y0 y1 y2 y3 y4 y5 y6 y7 y8 y9 y10))
  | 0 => fun _ _ _ _ _ _ _ _ _ _ _ r h => by simp [spec_Path.l0] at h
  | k + 1 => by
    have ih0 := spec_Path.mono_l k
    · intro y0 y1 y2 y3 y4 y5 y6 y7 y8 y9 y10
      unfold spec_Path.l0
      repeat' first
      | (with_reducible exact ih0 _ _ _ _ _ _ _ _ _ _ _)
      | (with_reducible exact spec_PathParts.mono _ _ _)
      | (with_reducible exact spec_RootOf.mono _ _ _ _ _ _ _ _ _ _)
      | (with_reducible exact LeO.refl _)
      | (with_reducible exact LeO.none _)
      | (with_reducible refine LeO.ite ?_ ?_)
      | (with_reducible refine LeO.bind ?_ (fun _ => ?_))
      | exact ih0 _ _ _ _ _ _ _ _ _ _ _
      | exact spec_PathParts.mono _ _ _
      | exact spec_RootOf.mono _ _ _ _ _ _ _ _ _ _
      | exact LeO.none _
      | refine LeO.ite ?_ ?_
      | refine LeO.bind ?_ (fun _ => ?_)
theorem spec_Path.mono : ∀ a0 a1 a2 a3 a4 a5 a6 a7 k, LeO (spec_Path.f k a0 a1 a2 a3 a4 a5 a6 a7) (spec_Path.f (k + 1) a0 a1 a2 a3 a4 a5 a6 a7) := by
  intro a0 a1 a2 a3 a4 a5 a6 a7 k
  have ih0 := spec_Path.mono_l k
  unfold spec_Path.f
  repeat' first
      | (with_reducible exact ih0 _ _ _ _ _ _ _ _ _ _ _)
      | (with_reducible exact spec_PathParts.mono _ _ _)
      | (with_reducible exact spec_RootOf.mono _ _ _ _ _ _ _ _ _ _)
      | (with_reducible exact LeO.refl _)
      | (with_reducible exact LeO.none _)
      | (with_reducible refine LeO.ite ?_ ?_)
      | (with_reducible refine LeO.bind ?_ (fun _ => ?_))
      | exact ih0 _ _ _ _ _ _ _ _ _ _ _
      | exact spec_PathParts.mono _ _ _
      | exact spec_RootOf.mono _ _ _ _ _ _ _ _ _ _
      | exact LeO.none _
      | refine LeO.ite ?_ ?_
      | refine LeO.bind ?_ (fun _ => ?_)
set_option maxHeartbeats 8000000 in
set_option maxRecDepth 100000 in
theorem spec_Path.calls (k : Nat) (a0_0 : Int) (a0_1 : Int) (a0_2 : Int) (a0_3 : Int) (a0_4 : Int) (a0_5 : Int) (P1_ : Nat → Prop) (A1 : Option Addr) (c1 : Nat) (l1 : List (List Int)) (a2 : Int) (r : List (List Int)) (w : World) (hs1 : Kd.V (Kd.slice 5 (Kd.int .u8)) 27 w w.heap.size (fun k_ => P1_ k_) (.slice A1 l1.length c1) l1) (h : spec_Path.f k a0_0 a0_1 a0_2 a0_3 a0_4 a0_5 l1 a2 = some r) :
    Calls Tryd.prog 34 #[.agg #[.int .i64 a0_0, .int .i64 a0_1, .int .i64 a0_2, .int .u64 a0_3, .int .u64 a0_4, .int .u64 a0_5], .slice A1 l1.length c1, .int .u64 a2] w fun e w' => ∃ v0_ : Value, e = .returned (v0_) ∧ Kd.N (Kd.slice 5 (Kd.int .u8)) 27 w' w.heap.size (fun k_ => (P1_ k_ ∨ w.heap.size ≤ k_)) v0_ r ∧ Below w.heap.size w w' := by
  have hu24 := Tryd.underlying24
  have hu53 := Tryd.underlying53
  have HO1 := Aside0.mk (show Kd.V (Kd.slice 5 (Kd.int .u8)) 27 w w.heap.size (fun k_ => (P1_ k_ ∨ w.heap.size ≤ k_)) (.slice A1 l1.length c1) l1 from Kd.V_mono hs1 (fun k_ hk => .inl hk))
  have HB := Aside0.mk (Below.refl w.heap.size w)
  have H : ((spec_PathParts.f k a2 (IntKind.u64.wrap ((l1.length : Int)))).bind fun t501 => (spec_Path.l0 k l1 ([] : List (List Int)) t501 (t501.length : Int) 0 a0_0 a0_1 a0_2 a0_3 a0_4 a0_5)) = some r := h
  clear h
  replace H := Option.bind_eq_some_iff.mp H
  obtain ⟨t501, A40, H⟩ := H
  replace H : (spec_Path.l0 k l1 ([] : List (List Int)) t501 (t501.length : Int) 0 a0_0 a0_1 a0_2 a0_3 a0_4 a0_5) = some r := H
  have A4 := Aside0.mk A40
  clear A40
  have H' := Aside0.mk H
  clear H
  go_enter Tryd.func34, Tryd.ntmps34
  go_wp2_with (first | ((with_reducible refine gate_dst (N := 3) rfl ?_); refine box_event ?hg (N := 3) ?hd (cs := #[.int .i64 a0_0, .int .i64 a0_1, .int .i64 a0_2, .int .u64 a0_3, .int .u64 a0_4, .int .u64 a0_5]) (t := 24) ?hr ?_; (case hd => rfl); (case hg => rfl); (case hr => first | (go_simp; done) | (go_simp; rfl)); intro gb500 hg w5 hbox hb; have n0_ := Aside0.mk (Kd.V_below (Kd.V_elderB (by (with_reducible repeat (first | apply Kd.V_alloc | apply Kd.V_drewN | apply Kd.V_drew)); exact HO1.out) gb500 (Nat.le_of_eq hg.symm)) hb); have n1_ := Aside0.mk (below_step (by repeat (first | (with_reducible first | exact HB.out | apply below_alloc | apply pw_below_drewN | apply below_drew1) | exact HB.out)) hb); have n2_ := Aside0.mk (hbox); have n3_ := Aside0.mk ((by rw [hg]; exact (below_size (by repeat (first | (with_reducible first | exact HB.out | apply below_alloc | apply pw_below_drewN | apply below_drew1) | exact HB.out))) : w.heap.size ≤ gb500)); have n4_ := Aside0.mk ((by rw [hg]; exact (below_size (by repeat (first | (with_reducible first | exact HB.out | apply below_alloc | apply pw_below_drewN | apply below_drew1) | exact HB.out))) : w.heap.size ≤ gb500)); clear HO1; clear HB; have HO1 := n0_; have HB := n1_; have BK500 := n2_; have GW500 := n3_; have GE500 := n4_; clear n0_ n1_ n2_ n3_ n4_; clear hb hbox hg) | ((with_reducible refine gate_callee (f := 73) rfl ?_); refine goesL_ (some 14) rfl rfl Tryd.func73 (by kernel_rfl) rfl #[.int .u64 a2, .int .u64 (IntKind.u64.wrap ((l1.length : Int)))] rfl (by (try simp only [List.map_toArray, List.map_cons, List.map_nil]); first | done | rfl | (simp only [List.length_drop, List.length_take]; rfl)) ?_; (with_reducible refine (spec_PathParts.calls k a2 (IntKind.u64.wrap ((l1.length : Int))) t501 _ A4.out).mono ?_); rintro e w6 ⟨v502, rfl, ho0, hb⟩; refine ⟨_, rfl, ?_⟩; have n0_ := Aside0.mk (Kd.V_elder' (by (with_reducible repeat (first | apply Kd.V_alloc | apply Kd.V_drewN | apply Kd.V_drew)); exact HO1.out) (Kd.R_base ho0) hb); have n1_ := Aside0.mk (Kd.R_lower (Kd.R_newM (M := fun k_ => (w.heap.size ≤ k_)) ho0 (below_size (by repeat (first | (with_reducible first | exact HB.out | apply below_alloc | apply pw_below_drewN | apply below_drew1 | refine below_set ?_ GE500.out) | exact HB.out))) (fun k_ h_ => h_)) (below_size (by repeat (first | (with_reducible first | exact HB.out | apply below_alloc | apply pw_below_drewN | apply below_drew1 | refine below_set ?_ GE500.out) | exact HB.out)))); have n2_ := Aside0.mk (blk_below (g := gb500) (o := .cells #[.int .i64 a0_0, .int .i64 a0_1, .int .i64 a0_2, .int .u64 a0_3, .int .u64 a0_4, .int .u64 a0_5] 24 (0, 0)) (by (with_reducible repeat (first | refine blk_drewN ?_ _ | refine blk_drew ?_ | refine blk_alloc ?_ _)); exact BK500.out) hb); have n3_ := Aside0.mk (below_step (by repeat (first | (with_reducible first | exact HB.out | apply below_alloc | apply pw_below_drewN | apply below_drew1 | refine below_set ?_ GE500.out) | exact HB.out)) hb); clear HO1; clear BK500; clear HB; have HO1 := n0_; have HO503 := n1_; have BK500 := n2_; have HB := n3_; clear n0_ n1_ n2_ n3_; (try clear hb); (try clear hb2); (try clear hk); (try clear hi); (try clear ho0); obtain ⟨Ao7, co7, eo7⟩ := Kd.R_slice HO503.out; subst eo7))
  try simp only [Act.put, List.setIfInBounds_toArray, List.set_cons_zero, List.set_cons_succ]
  go_loopg [7, 16] k (fun kq v7 v16 w' => ∃ (x7_1 : List (List Int)) (x16_1 : Int), v16 = .int .i64 x16_1 ∧ Aside0 (spec_Path.l0 kq l1 x7_1 t501 (t501.length : Int) x16_1 a0_0 a0_1 a0_2 a0_3 a0_4 a0_5 = some r) ∧ Aside0 (kq ≤ k) ∧ Aside0 (Kd.V (Kd.slice 5 (Kd.int .u8)) 27 w' w.heap.size (fun k_ => (P1_ k_ ∨ w.heap.size ≤ k_) ∧ some k_ ≠ (v7 : Value).ownBlock ∧ some k_ ≠ ((.slice Ao7 t501.length co7) : Value).ownBlock ∧ k_ ≠ gb500) (.slice A1 l1.length c1) l1) ∧ Aside0 (Kd.N (Kd.slice 5 (Kd.int .u8)) 27 w' w.heap.size (fun k_ => (P1_ k_ ∨ w.heap.size ≤ k_) ∧ some k_ ≠ ((.slice Ao7 t501.length co7) : Value).ownBlock ∧ k_ ≠ gb500) v7 x7_1) ∧ Aside0 (Kd.R k53 53 w' w.heap.size (fun k_ => (w.heap.size ≤ k_)) (.slice Ao7 t501.length co7) t501) ∧ Aside0 (w'.heap[gb500]? = some (.cells #[.int .i64 a0_0, .int .i64 a0_1, .int .i64 a0_2, .int .u64 a0_3, .int .u64 a0_4, .int .u64 a0_5] 24 (0, 0))) ∧ Aside0 (Below w.heap.size w w'))
  case atStart => exact ⟨(([] : List (List Int))), (0), (by first | rfl | (simp; done) | (simp [*]; done)), H', ⟨Nat.le_refl _⟩, ⟨by (with_reducible repeat (first | apply Kd.V_alloc | apply Kd.V_drewN | apply Kd.V_drew)); exact Kd.V_mono HO1.out (fun _ hk => ⟨hk.1.1, ⟨(by simp [Value.ownBlock]), ⟨hk.2, hk.1.2⟩⟩⟩)⟩, ⟨by first | exact Kd.S_nil _ _ _ _ _ | exact Kd.N_nil _ _ _ _ _ | exact Kd.V_nil _ _ _ _ _ | exact Kd.Q_nil _ _ _ _ _ | exact Kd.R_nil _ _ _ _ _⟩, ⟨by (with_reducible repeat (first | apply Kd.R_alloc | apply Kd.R_drewN | apply Kd.R_drew)); exact Kd.R_mono HO503.out (fun _ hk => hk.1)⟩, ⟨by (with_reducible repeat (first | refine blk_drewN ?_ _ | refine blk_drew ?_ | refine blk_alloc ?_ _)); exact BK500.out⟩, ⟨by repeat (first | (with_reducible first | exact HB.out | apply below_alloc | apply pw_below_drewN | apply below_drew1 | refine below_set ?_ GE500.out) | exact HB.out)⟩⟩
  case round =>
    clear H'
    try clear c1
    try clear p2
    try clear c3
    try clear c7
    obtain ⟨x7_1, x16_1, rfl, HA, HK1, HO_1, HO_7, HO_14, BK500, HB⟩ := hrel
    cases gk with
    | zero => exact absurd HA.out (by simp [spec_Path.l0])
    | succ k1 =>
      have H := HA.out
      clear HA
      simp only [spec_Path.l0] at H
      by_cases c8 : x16_1 < (t501.length : Int)
      · rw [if_pos c8] at H
        have c8b0 : decide (x16_1 < (t501.length : Int)) = true := decide_eq_true c8
        clear c8
        by_cases c9 : 0 ≤ x16_1
        · rw [if_pos c9] at H
          have c9b0 : decide (0 ≤ x16_1) = true := decide_eq_true c9
          clear c9
          by_cases c10 : x16_1 < (t501.length : Int)
          · rw [if_pos c10] at H
            have c10b0 : decide (x16_1 < (t501.length : Int)) = true := decide_eq_true c10
            clear c10
            replace H := Option.bind_eq_some_iff.mp H
            obtain ⟨t506, A110, H⟩ := H
            replace H : (if x7_1.length < 5864062014805 then (spec_Path.l0 k1 l1 (x7_1 ++ [t506]) t501 (t501.length : Int) (wrap64 (x16_1 + 1)) a0_0 a0_1 a0_2 a0_3 a0_4 a0_5) else (none)) = some r := H
            have A11 := Aside0.mk A110
            clear A110
            by_cases c12 : x7_1.length < 5864062014805
            · rw [if_pos c12] at H
              have LMc12 := Aside0.mk c12
              clear c12
              obtain ⟨y509, hy509⟩ : ∃ y_ : List (List Int), y_ = (x7_1 ++ [t506]) := ⟨_, rfl⟩
              replace H : (spec_Path.l0 k1 l1 y509 t501 (t501.length : Int) (wrap64 (x16_1 + 1)) a0_0 a0_1 a0_2 a0_3 a0_4 a0_5) = some r := by first | (rw [hy509]; with_reducible exact H) | (have H2_ := (Option.bind_some _ _).symm.trans H; rw [hy509]; with_reducible exact H2_) | (have H2_ := (Option.bind_some _ _).symm.trans H; with_reducible exact H2_) | with_reducible exact H | (rw [hy509]; exact H) | exact H
              have Ny509 := Aside0.mk hy509
              clear hy509
              have H' := Aside0.mk H
              clear H
              have p504 : 0 ≤ (x16_1 : Int) := of_decide_eq_true (by first | (with_reducible assumption) | assumption)
              have q504 : x16_1 < (t501.length : Int) := of_decide_eq_true (by first | (with_reducible assumption) | assumption)
              obtain ⟨ad504, e504, hx504_0, hx504_1⟩ := at_T53 (Kd.R_reads' HO_14.out).2.2 x16_1 p504 q504
              cases e504
              replace p504 := eq_true p504
              replace q504 := eq_true q504
              go_wp2_with (first | ((with_reducible refine gate_dst (N := 9) rfl ?_); refine box_event ?hg (N := 9) ?hd (cs := #[.int .u64 0, .int .u64 0]) (t := 53) ?hr ?_; (case hd => rfl); (case hg => rfl); (case hr => first | (go_simp; done) | (go_simp; rfl)); intro gb505 hg w13 hbox hb; have n0_ := Aside0.mk (Kd.V_below (Kd.V_elderB (by (with_reducible repeat (first | apply Kd.V_alloc | apply Kd.V_drewN | apply Kd.V_drew)); exact HO_1.out) gb505 (Nat.le_of_eq hg.symm)) hb); have n1_ := Aside0.mk (Kd.N_below (Kd.N_elderB (by (with_reducible repeat (first | apply Kd.N_alloc | apply Kd.N_drewN | apply Kd.N_drew)); exact HO_7.out) gb505 (Nat.le_of_eq hg.symm)) hb); have n2_ := Aside0.mk (Kd.R_below (Kd.R_elderB (by (with_reducible repeat (first | apply Kd.R_alloc | apply Kd.R_drewN | apply Kd.R_drew)); exact HO_14.out) gb505 (Nat.le_of_eq hg.symm)) hb); have n3_ := Aside0.mk (blk_below (g := gb500) (o := .cells #[.int .i64 a0_0, .int .i64 a0_1, .int .i64 a0_2, .int .u64 a0_3, .int .u64 a0_4, .int .u64 a0_5] 24 (0, 0)) (by (with_reducible repeat (first | refine blk_drewN ?_ _ | refine blk_drew ?_ | refine blk_alloc ?_ _)); exact BK500.out) hb); have n4_ := Aside0.mk (below_step (by repeat (first | (with_reducible first | exact HB.out | apply below_alloc | apply pw_below_drewN | apply below_drew1 | refine below_set ?_ GE500.out) | exact HB.out)) hb); have n5_ := Aside0.mk (hbox); have n6_ := Aside0.mk ((by rw [hg]; exact (below_size (by repeat (first | (with_reducible first | exact HB.out | apply below_alloc | apply pw_below_drewN | apply below_drew1 | refine below_set ?_ GE500.out) | exact HB.out))) : w.heap.size ≤ gb505)); have n7_ := Aside0.mk ((by rw [hg]; exact (below_size (by repeat (first | (with_reducible first | exact HB.out | apply below_alloc | apply pw_below_drewN | apply below_drew1 | refine below_set ?_ GE500.out) | exact HB.out))) : w.heap.size ≤ gb505)); have n8_ := Aside0.mk ((by rw [hg]; exact Nat.ne_of_lt (blk_lt (g := gb500) (o := .cells #[.int .i64 a0_0, .int .i64 a0_1, .int .i64 a0_2, .int .u64 a0_3, .int .u64 a0_4, .int .u64 a0_5] 24 (0, 0)) (by (with_reducible repeat (first | refine blk_drewN ?_ _ | refine blk_drew ?_ | refine blk_alloc ?_ _)); exact BK500.out)) : gb500 ≠ gb505)); have n9_ := Aside0.mk ((by rw [hg]; exact Nat.ne_of_gt (blk_lt (g := gb500) (o := .cells #[.int .i64 a0_0, .int .i64 a0_1, .int .i64 a0_2, .int .u64 a0_3, .int .u64 a0_4, .int .u64 a0_5] 24 (0, 0)) (by (with_reducible repeat (first | refine blk_drewN ?_ _ | refine blk_drew ?_ | refine blk_alloc ?_ _)); exact BK500.out)) : gb505 ≠ gb500)); clear HO_1; clear HO_7; clear HO_14; clear BK500; clear HB; have HO_1 := n0_; have HO_7 := n1_; have HO_14 := n2_; have BK500 := n3_; have HB := n4_; have BK505 := n5_; have GW505 := n6_; have GE505 := n7_; have NB500_505 := n8_; have NB505_500 := n9_; clear n0_ n1_ n2_ n3_ n4_ n5_ n6_ n7_ n8_ n9_; clear hb hbox hg; have hnb14 := NB505_500.out; have hnc14 := NB500_505.out; have hcz15_0 : w13.cell? ⟨gb505, 0, none⟩ = some (.int .u64 0) := (blk_cell BK505.out 0).trans rfl; have hcz15_1 : w13.cell? ⟨gb505, 1, none⟩ = some (.int .u64 0) := (blk_cell BK505.out 1).trans rfl; have hfz15_0 := blk_frozen BK505.out 0; have hfz15_1 := blk_frozen BK505.out 1) | ((with_reducible refine gate_store (t := 53) (p := 9) rfl ?_); refine store_event (t := 53) (p := 9) (v := ?vo_w16) (w1 := ((w13.setCell ⟨gb505, 0, none⟩ (.int .u64 ((rd_T53 t501 x16_1).f0))).setCell ⟨gb505, 1, none⟩ (.int .u64 ((rd_T53 t501 x16_1).f1)))) ?hg ?ho ?hn ?hr ?_; (case ho => rfl); (case hg => rfl); (case hn => rfl); (case hr => first | (go_simp; done) | (go_simp; rfl)); intro w16 hw; have n0_ : Aside0 (Kd.V (Kd.slice 5 (Kd.int .u8)) 27 w16 w.heap.size (fun k_ => (P1_ k_ ∨ w.heap.size ≤ k_) ∧ some k_ ≠ (u7 : Value).ownBlock ∧ some k_ ≠ (.slice (some ad504) t501.length co7 : Value).ownBlock ∧ k_ ≠ gb500 ∧ k_ ≠ gb505) (.slice A1 l1.length c1) l1) := ⟨(by rw [hw]; exact (by (with_reducible repeat (first | apply Kd.V_alloc | apply Kd.V_drewN | apply Kd.V_drew)); exact Kd.V_mono (Kd.V_far (p := ⟨gb505, 1, none⟩) (Kd.V_far (p := ⟨gb505, 0, none⟩) (Kd.V_mono HO_1.out (fun k_ hk => (⟨hk, hk.2⟩ : _ ∧ k_ ≠ gb505))) (fun _ hk => hk.2) (.int .u64 ((rd_T53 t501 x16_1).f0))) (fun _ hk => hk.2) (.int .u64 ((rd_T53 t501 x16_1).f1))) (fun _ hk => ⟨hk.1.1.1, ⟨hk.1.1.2.1, ⟨hk.1.1.2.2.1, ⟨hk.1.1.2.2.2, hk.1.2⟩⟩⟩⟩)))⟩; have n1_ : Aside0 (Kd.N (Kd.slice 5 (Kd.int .u8)) 27 w16 w.heap.size (fun k_ => (P1_ k_ ∨ w.heap.size ≤ k_) ∧ some k_ ≠ (.slice (some ad504) t501.length co7 : Value).ownBlock ∧ k_ ≠ gb500 ∧ k_ ≠ gb505) u7 x7_1) := ⟨(by rw [hw]; exact (by (with_reducible repeat (first | apply Kd.N_alloc | apply Kd.N_drewN | apply Kd.N_drew)); exact Kd.N_mono (Kd.N_far (p := ⟨gb505, 1, none⟩) (Kd.N_far (p := ⟨gb505, 0, none⟩) (Kd.N_mono HO_7.out (fun k_ hk => (⟨hk, hk.2⟩ : _ ∧ k_ ≠ gb505))) (fun _ hk => hk.2) (.int .u64 ((rd_T53 t501 x16_1).f0))) (fun _ hk => hk.2) (.int .u64 ((rd_T53 t501 x16_1).f1))) (fun _ hk => ⟨hk.1.1.1, ⟨hk.1.1.2.1, ⟨hk.1.1.2.2, hk.1.2⟩⟩⟩)))⟩; have n2_ : Aside0 (Kd.R k53 53 w16 w.heap.size (fun k_ => (w.heap.size ≤ k_) ∧ k_ ≠ gb505) (.slice (some ad504) t501.length co7) t501) := ⟨(by rw [hw]; exact (by (with_reducible repeat (first | apply Kd.R_alloc | apply Kd.R_drewN | apply Kd.R_drew)); exact Kd.R_mono (Kd.R_far (p := ⟨gb505, 1, none⟩) (Kd.R_far (p := ⟨gb505, 0, none⟩) (Kd.R_mono HO_14.out (fun k_ hk => (⟨hk, hk.2⟩ : _ ∧ k_ ≠ gb505))) (fun _ hk => hk.2) (.int .u64 ((rd_T53 t501 x16_1).f0))) (fun _ hk => hk.2) (.int .u64 ((rd_T53 t501 x16_1).f1))) (fun _ hk => ⟨hk.1.1, hk.1.2⟩)))⟩; have n3_ : Aside0 (w16.heap[gb500]? = some (.cells #[.int .i64 a0_0, .int .i64 a0_1, .int .i64 a0_2, .int .u64 a0_3, .int .u64 a0_4, .int .u64 a0_5] 24 (0, 0))) := ⟨(by rw [hw]; exact (by (with_reducible repeat (first | refine blk_drewN ?_ _ | refine blk_drew ?_ | refine blk_alloc ?_ _)); refine blk_far ?_ NB500_505.out _; (with_reducible repeat (first | refine blk_drewN ?_ _ | refine blk_drew ?_ | refine blk_alloc ?_ _)); refine blk_far ?_ NB500_505.out _; (with_reducible repeat (first | refine blk_drewN ?_ _ | refine blk_drew ?_ | refine blk_alloc ?_ _)); exact BK500.out))⟩; have n4_ : Aside0 (w16.heap[gb505]? = some (.cells #[.int .u64 ((rd_T53 t501 x16_1).f0), .int .u64 ((rd_T53 t501 x16_1).f1)] 53 (0, 0))) := ⟨(by rw [hw]; exact (by (with_reducible repeat (first | refine blk_drewN ?_ _ | refine blk_drew ?_ | refine blk_alloc ?_ _)); refine blk_put (cs := #[.int .u64 ((rd_T53 t501 x16_1).f0), .int .u64 0]) ?_ 1 _ rfl; (with_reducible repeat (first | refine blk_drewN ?_ _ | refine blk_drew ?_ | refine blk_alloc ?_ _)); refine blk_put (cs := #[.int .u64 0, .int .u64 0]) ?_ 0 _ rfl; (with_reducible repeat (first | refine blk_drewN ?_ _ | refine blk_drew ?_ | refine blk_alloc ?_ _)); exact BK505.out))⟩; have n5_ : Aside0 (Below w.heap.size w w16) := ⟨(by rw [hw]; exact (by repeat (first | (with_reducible first | exact HB.out | apply below_alloc | apply pw_below_drewN | apply below_drew1 | refine below_set ?_ GE500.out | refine below_set ?_ GE505.out) | exact HB.out)))⟩; clear hw; clear HO_1; clear HO_7; clear HO_14; clear BK500; clear BK505; clear HB; have HO_1 := n0_; have HO_7 := n1_; have HO_14 := n2_; have BK500 := n3_; have BK505 := n4_; have HB := n5_; clear n0_ n1_ n2_ n3_ n4_ n5_; have hcz17_0 : w16.cell? ⟨gb500, 0, none⟩ = some (.int .i64 a0_0) := (blk_cell BK500.out 0).trans rfl; have hcz17_1 : w16.cell? ⟨gb500, 1, none⟩ = some (.int .i64 a0_1) := (blk_cell BK500.out 1).trans rfl; have hcz17_2 : w16.cell? ⟨gb500, 2, none⟩ = some (.int .i64 a0_2) := (blk_cell BK500.out 2).trans rfl; have hcz17_3 : w16.cell? ⟨gb500, 3, none⟩ = some (.int .u64 a0_3) := (blk_cell BK500.out 3).trans rfl; have hcz17_4 : w16.cell? ⟨gb500, 4, none⟩ = some (.int .u64 a0_4) := (blk_cell BK500.out 4).trans rfl; have hcz17_5 : w16.cell? ⟨gb500, 5, none⟩ = some (.int .u64 a0_5) := (blk_cell BK500.out 5).trans rfl; have hfz17_0 := blk_frozen BK500.out 0; have hfz17_1 := blk_frozen BK500.out 1; have hfz17_2 := blk_frozen BK500.out 2; have hfz17_3 := blk_frozen BK500.out 3; have hfz17_4 := blk_frozen BK500.out 4; have hfz17_5 := blk_frozen BK500.out 5; have hcz18_0 : w16.cell? ⟨gb505, 0, none⟩ = some (.int .u64 ((rd_T53 t501 x16_1).f0)) := (blk_cell BK505.out 0).trans rfl; have hcz18_1 : w16.cell? ⟨gb505, 1, none⟩ = some (.int .u64 ((rd_T53 t501 x16_1).f1)) := (blk_cell BK505.out 1).trans rfl; have hfz18_0 := blk_frozen BK505.out 0; have hfz18_1 := blk_frozen BK505.out 1) | ((with_reducible refine gate_callee (f := 72) rfl ?_); refine goesL_ (some 24) rfl rfl Tryd.func72 (by kernel_rfl) rfl #[.agg #[.int .i64 a0_0, .int .i64 a0_1, .int .i64 a0_2, .int .u64 a0_3, .int .u64 a0_4, .int .u64 a0_5], .slice A1 l1.length c1, .agg #[.int .u64 ((rd_T53 t501 x16_1).f0), .int .u64 ((rd_T53 t501 x16_1).f1)]] rfl (by (try simp only [List.map_toArray, List.map_cons, List.map_nil]); first | done | rfl | (simp only [List.length_drop, List.length_take]; rfl)) ?_; (with_reducible refine (spec_RootOf.calls k1 a0_0 a0_1 a0_2 a0_3 a0_4 a0_5 (fun k_ => ((P1_ k_ ∨ w.heap.size ≤ k_) ∧ (some k_ ≠ (u7 : Value).ownBlock ∧ (some k_ ≠ (.slice (some ad504) t501.length co7 : Value).ownBlock ∧ (k_ ≠ gb500 ∧ k_ ≠ gb505))))) _ _ l1 ((rd_T53 t501 x16_1).f0) ((rd_T53 t501 x16_1).f1) t506 _ ?side1 A11.out).mono ?_); (case side1 => exact HO_1.out); rintro e w19 ⟨v507, rfl, ho0, hb⟩; refine ⟨_, rfl, ?_⟩; have n0_ := Aside0.mk (Kd.V_below (by (with_reducible repeat (first | apply Kd.V_alloc | apply Kd.V_drewN | apply Kd.V_drew)); exact HO_1.out) hb); have n1_ := Aside0.mk (Kd.N_below (by (with_reducible repeat (first | apply Kd.N_alloc | apply Kd.N_drewN | apply Kd.N_drew)); exact HO_7.out) hb); have n2_ := Aside0.mk (Kd.R_below (by (with_reducible repeat (first | apply Kd.R_alloc | apply Kd.R_drewN | apply Kd.R_drew)); exact HO_14.out) hb); have n3_ := Aside0.mk (Kd.V_lower (Kd.V_mono (ok' := fun k_ => (P1_ k_ ∨ w.heap.size ≤ k_) ∧ some k_ ≠ (u7 : Value).ownBlock ∧ some k_ ≠ (.slice (some ad504) t501.length co7 : Value).ownBlock ∧ k_ ≠ gb500 ∧ k_ ≠ gb505) ho0 (fun k_ hk_ => ⟨Or.elim hk_ (fun hs_ => hs_.1) (fun hn_ => (.inr (Nat.le_trans (below_size (by repeat (first | (with_reducible first | exact HB.out | apply below_alloc | apply pw_below_drewN | apply below_drew1 | refine below_set ?_ GE500.out | refine below_set ?_ GE505.out) | exact HB.out))) hn_))), Or.elim hk_ (fun hs_ => hs_.2.1) (fun hn_ => (Kd.fresh' (Kd.N_lt (by (with_reducible repeat (first | apply Kd.N_alloc | apply Kd.N_drewN | apply Kd.N_drew)); exact HO_7.out)) k_ hn_)), Or.elim hk_ (fun hs_ => hs_.2.2.1) (fun hn_ => (Kd.fresh' (Kd.R_lt (by (with_reducible repeat (first | apply Kd.R_alloc | apply Kd.R_drewN | apply Kd.R_drew)); exact HO_14.out)) k_ hn_)), Or.elim hk_ (fun hs_ => hs_.2.2.2.1) (fun hn_ => (Kd.freshB (g := gb500) (o := .cells #[.int .i64 a0_0, .int .i64 a0_1, .int .i64 a0_2, .int .u64 a0_3, .int .u64 a0_4, .int .u64 a0_5] 24 (0, 0)) (by (with_reducible repeat (first | refine blk_drewN ?_ _ | refine blk_drew ?_ | refine blk_alloc ?_ _)); exact BK500.out) k_ hn_)), Or.elim hk_ (fun hs_ => hs_.2.2.2.2) (fun hn_ => (Kd.freshB (g := gb505) (o := .cells #[.int .u64 ((rd_T53 t501 x16_1).f0), .int .u64 ((rd_T53 t501 x16_1).f1)] 53 (0, 0)) (by (with_reducible repeat (first | refine blk_drewN ?_ _ | refine blk_drew ?_ | refine blk_alloc ?_ _)); exact BK505.out) k_ hn_))⟩)) (below_size (by repeat (first | (with_reducible first | exact HB.out | apply below_alloc | apply pw_below_drewN | apply below_drew1 | refine below_set ?_ GE500.out | refine below_set ?_ GE505.out) | exact HB.out)))); have n4_ := Aside0.mk (blk_below (g := gb500) (o := .cells #[.int .i64 a0_0, .int .i64 a0_1, .int .i64 a0_2, .int .u64 a0_3, .int .u64 a0_4, .int .u64 a0_5] 24 (0, 0)) (by (with_reducible repeat (first | refine blk_drewN ?_ _ | refine blk_drew ?_ | refine blk_alloc ?_ _)); exact BK500.out) hb); have n5_ := Aside0.mk (blk_below (g := gb505) (o := .cells #[.int .u64 ((rd_T53 t501 x16_1).f0), .int .u64 ((rd_T53 t501 x16_1).f1)] 53 (0, 0)) (by (with_reducible repeat (first | refine blk_drewN ?_ _ | refine blk_drew ?_ | refine blk_alloc ?_ _)); exact BK505.out) hb); have n6_ := Aside0.mk (below_step (by repeat (first | (with_reducible first | exact HB.out | apply below_alloc | apply pw_below_drewN | apply below_drew1 | refine below_set ?_ GE500.out | refine below_set ?_ GE505.out) | exact HB.out)) hb); clear HO_1; clear HO_7; clear HO_14; clear BK500; clear BK505; clear HB; have HO_1 := n0_; have HO_7 := n1_; have HO_14 := n2_; have HO508 := n3_; have BK500 := n4_; have BK505 := n5_; have HB := n6_; clear n0_ n1_ n2_ n3_ n4_ n5_ n6_; (try clear hb); (try clear hb2); (try clear hk); (try clear hi); (try clear ho0); obtain ⟨Ao21, co21, eo21⟩ := Kd.V_slice HO508.out; subst eo21) | ((with_reducible refine gate_builtin (b := .append) (xs := #[.tmp 20, .tmp 25]) rfl ?_); at_builtin; refine Kd.N_append (Kd.slice 5 (Kd.int .u8)) (w0 := w) w.heap.size rfl (.tmp 20) (.tmp 25) 25 27 (.slice none 0 0) 24 rfl Tryd.underlying25 info27 rfl (by decide) (by omega) u7 x7_1 t506 [.slice Ao21 t506.length co21] (fun k_ => (P1_ k_ ∨ w.heap.size ≤ k_) ∧ some k_ ≠ (.slice (some ad504) t501.length co7 : Value).ownBlock ∧ k_ ≠ gb500 ∧ k_ ≠ gb505) (fun k_ => ((fun k_ => (P1_ k_ ∨ w.heap.size ≤ k_) ∧ some k_ ≠ (.slice (some ad504) t501.length co7 : Value).ownBlock ∧ k_ ≠ gb500 ∧ k_ ≠ gb505)) k_ ∧ some k_ ≠ (u7 : Value).ownBlock) rfl rfl ?aP (fun _ hk => hk) ?aF ?aO ?aB ?aS ?aL ?_; (case aP => exact (Kd.FK_slice_mk (Kd.V_reads' (Kd.V_mono (ok' := (fun k_ => ((fun k_ => (P1_ k_ ∨ w.heap.size ≤ k_) ∧ some k_ ≠ (.slice (some ad504) t501.length co7 : Value).ownBlock ∧ k_ ≠ gb500 ∧ k_ ≠ gb505)) k_ ∧ some k_ ≠ (u7 : Value).ownBlock)) (HO508.out) (fun k_ hk => ⟨⟨hk.1, ⟨hk.2.2.1, ⟨hk.2.2.2.1, hk.2.2.2.2⟩⟩⟩, hk.2.1⟩))).2.1 (Kd.V_F (Kd.V_mono (ok' := (fun k_ => ((fun k_ => (P1_ k_ ∨ w.heap.size ≤ k_) ∧ some k_ ≠ (.slice (some ad504) t501.length co7 : Value).ownBlock ∧ k_ ≠ gb500 ∧ k_ ≠ gb505)) k_ ∧ some k_ ≠ (u7 : Value).ownBlock)) (HO508.out) (fun k_ hk => ⟨⟨hk.1, ⟨hk.2.2.1, ⟨hk.2.2.2.1, hk.2.2.2.2⟩⟩⟩, hk.2.1⟩))))); (case aB => exact (by repeat (first | (with_reducible first | exact HB.out | apply below_alloc | apply pw_below_drewN | apply below_drew1 | refine below_set ?_ GE500.out | refine below_set ?_ GE505.out) | exact HB.out))); (case aF => exact (fun k_ hk => ⟨(.inr (Nat.le_trans (below_size (by repeat (first | (with_reducible first | exact HB.out | apply below_alloc | apply pw_below_drewN | apply below_drew1 | refine below_set ?_ GE500.out | refine below_set ?_ GE505.out) | exact HB.out))) hk)), Kd.fresh' (Kd.R_lt (by (with_reducible repeat (first | apply Kd.R_alloc | apply Kd.R_drewN | apply Kd.R_drew)); exact HO_14.out)) k_ hk, Kd.freshB (g := gb500) (o := .cells #[.int .i64 a0_0, .int .i64 a0_1, .int .i64 a0_2, .int .u64 a0_3, .int .u64 a0_4, .int .u64 a0_5] 24 (0, 0)) (by (with_reducible repeat (first | refine blk_drewN ?_ _ | refine blk_drew ?_ | refine blk_alloc ?_ _)); exact BK500.out) k_ hk, Kd.freshB (g := gb505) (o := .cells #[.int .u64 ((rd_T53 t501 x16_1).f0), .int .u64 ((rd_T53 t501 x16_1).f1)] 53 (0, 0)) (by (with_reducible repeat (first | refine blk_drewN ?_ _ | refine blk_drew ?_ | refine blk_alloc ?_ _)); exact BK505.out) k_ hk⟩)); (case aO => exact (by (with_reducible repeat (first | apply Kd.N_alloc | apply Kd.N_drewN | apply Kd.N_drew)); exact HO_7.out)); (case aS => exact (below_size (by repeat (first | (with_reducible first | exact HB.out | apply below_alloc | apply pw_below_drewN | apply below_drew1 | refine below_set ?_ GE500.out | refine below_set ?_ GE505.out) | exact HB.out)))); (case aL => have := LMc12.out; omega); intro v510 w20 ho hb hg hat; rw [← Ny509.out] at ho; have n0_ := Aside0.mk (Kd.V_afterv (ok := (fun k_ => (P1_ k_ ∨ w.heap.size ≤ k_) ∧ some k_ ≠ (.slice (some ad504) t501.length co7 : Value).ownBlock ∧ k_ ≠ gb500 ∧ k_ ≠ gb505)) (by (with_reducible repeat (first | apply Kd.V_alloc | apply Kd.V_drewN | apply Kd.V_drew)); exact Kd.V_mono HO_1.out (fun _ hk => ⟨⟨hk.1, ⟨hk.2.2.1, ⟨hk.2.2.2.1, hk.2.2.2.2⟩⟩⟩, hk.2.1⟩)) hg hat); have n1_ := Aside0.mk (Kd.R_over' (by (with_reducible repeat (first | apply Kd.R_alloc | apply Kd.R_drewN | apply Kd.R_drew)); exact HO_14.out) (Kd.N_typed (by (with_reducible repeat (first | apply Kd.N_alloc | apply Kd.N_drewN | apply Kd.N_drew)); exact HO_7.out)) (by decide) hg); have n2_ := Aside0.mk (blk_grown (g := gb500) (o := .cells #[.int .i64 a0_0, .int .i64 a0_1, .int .i64 a0_2, .int .u64 a0_3, .int .u64 a0_4, .int .u64 a0_5] 24 (0, 0)) (by (with_reducible repeat (first | refine blk_drewN ?_ _ | refine blk_drew ?_ | refine blk_alloc ?_ _)); exact BK500.out) hg (Kd.N_ne HO_7.out BK500.out (by decide))); have n3_ := Aside0.mk (blk_grown (g := gb505) (o := .cells #[.int .u64 ((rd_T53 t501 x16_1).f0), .int .u64 ((rd_T53 t501 x16_1).f1)] 53 (0, 0)) (by (with_reducible repeat (first | refine blk_drewN ?_ _ | refine blk_drew ?_ | refine blk_alloc ?_ _)); exact BK505.out) hg (Kd.N_ne HO_7.out BK505.out (by decide))); have n4_ := Aside0.mk (Kd.V_afterv (ok := (fun k_ => (P1_ k_ ∨ w.heap.size ≤ k_) ∧ some k_ ≠ (.slice (some ad504) t501.length co7 : Value).ownBlock ∧ k_ ≠ gb500 ∧ k_ ≠ gb505)) (by (with_reducible repeat (first | apply Kd.V_alloc | apply Kd.V_drewN | apply Kd.V_drew)); exact Kd.V_mono HO508.out (fun _ hk => ⟨⟨hk.1, ⟨hk.2.2.1, ⟨hk.2.2.2.1, hk.2.2.2.2⟩⟩⟩, hk.2.1⟩)) hg hat); have n5_ := Aside0.mk (hb); have n6_ := Aside0.mk (ho); clear HO_1; clear HO_14; clear BK500; clear BK505; clear HO508; clear HB; clear HO_7; have HO_1 := n0_; have HO_14 := n1_; have BK500 := n2_; have BK505 := n3_; have HO508 := n4_; have HB := n5_; have HO511 := n6_; clear n0_ n1_ n2_ n3_ n4_ n5_ n6_; clear ho hb hg hat))
              go_roundg k1
              case measure => have := HK1.out; omega
              case rel => exact ⟨(y509), (wrap64 (x16_1 + 1)), (by first | rfl | (simp; done) | (simp [*]; done)), H', ⟨by have := HK1.out; omega⟩, ⟨by (with_reducible repeat (first | apply Kd.V_alloc | apply Kd.V_drewN | apply Kd.V_drew)); exact Kd.V_mono HO_1.out (fun _ hk => ⟨hk.1.1, ⟨hk.2, ⟨hk.1.2.1, hk.1.2.2.1⟩⟩⟩)⟩, ⟨by (with_reducible repeat (first | apply Kd.N_alloc | apply Kd.N_drewN | apply Kd.N_drew)); exact Kd.N_mono HO511.out (fun _ hk => ⟨hk.1, ⟨hk.2.1, hk.2.2.1⟩⟩)⟩, ⟨by (with_reducible repeat (first | apply Kd.R_alloc | apply Kd.R_drewN | apply Kd.R_drew)); exact Kd.R_mono HO_14.out (fun _ hk => hk.1)⟩, ⟨by (with_reducible repeat (first | refine blk_drewN ?_ _ | refine blk_drew ?_ | refine blk_alloc ?_ _)); exact BK500.out⟩, ⟨by repeat (first | (with_reducible first | exact HB.out | apply below_alloc | apply pw_below_drewN | apply below_drew1 | refine below_set ?_ GE500.out | refine below_set ?_ GE505.out) | exact HB.out)⟩⟩
            · rw [if_neg c12] at H
              exact absurd H (by simp)
          · rw [if_neg c10] at H
            exact absurd H (by simp)
        · rw [if_neg c9] at H
          exact absurd H (by simp)
      · rw [if_neg c8] at H
        have c8b0 : decide (x16_1 < (t501.length : Int)) = false := decide_eq_false c8
        clear c8
        obtain rfl := Option.some.inj H
        go_wp2
        go_ret
        exact ⟨_, by first | rfl | (simp [errW_none, errW_some] <;> rfl) | (simp [*, errW_none, errW_some] <;> rfl), by (with_reducible repeat (first | apply Kd.N_alloc | apply Kd.N_drewN | apply Kd.N_drew)); exact Kd.N_mono HO_7.out (fun _ hk => hk.1), by repeat (first | (with_reducible first | exact HB.out | apply below_alloc | apply pw_below_drewN | apply below_drew1 | refine below_set ?_ GE500.out) | exact HB.out)⟩
def spec_Proof.l0 : Nat → List (List Int) → List (List Int) → List (S53) → Int → Int → Int → Int → Int → Int → Int → Int → Option ((List (List Int)))
  | 0, _, _, _, _, _, _, _, _, _, _, _ => none
  | k + 1, x1, x7, x14, x15, x16, x513000, x513001, x513002, x513003, x513004, x513005 => if x16 < x15 then (if 0 ≤ x16 then (if x16 < (x14.length : Int) then ((spec_RootOf.f k x513000 x513001 x513002 x513003 x513004 x513005 x1 ((rd_T53 x14 x16).f0) ((rd_T53 x14 x16).f1)).bind fun t518 => (if x7.length < 5864062014805 then (spec_Proof.l0 k x1 (x7 ++ [t518]) x14 x15 (wrap64 (x16 + 1)) x513000 x513001 x513002 x513003 x513004 x513005) else (none))) else (none)) else (none)) else (some x7)
def spec_Proof.f (k : Nat) (a0_0 : Int) (a0_1 : Int) (a0_2 : Int) (a0_3 : Int) (a0_4 : Int) (a0_5 : Int) (l1 : List (List Int)) (a2 : Int) : Option ((List (List Int))) := (spec_ProofParts.f k a2 (IntKind.u64.wrap ((l1.length : Int)))).bind fun t513 => (spec_Proof.l0 k l1 ([] : List (List Int)) t513 (t513.length : Int) 0 a0_0 a0_1 a0_2 a0_3 a0_4 a0_5)
theorem spec_Proof.mono_l : ∀ k, (∀ y0 y1 y2 y3 y4 y5 y6 y7 y8 y9 y10, LeO (spec_Proof.l0 k y0 y1 y2 y3 y4 y5 y6 y7 y8 y9 y10) (spec_Proof.l0 (k + 1) y0 y1 y2 y3 y4 y5 y6 y7 y8 y9 y10))
  | 0 => fun _ _ _ _ _ _ _ _ _ _ _ r h => by simp [spec_Proof.l0] at h
  | k + 1 => by
    have ih0 := spec_Proof.mono_l k
    · intro y0 y1 y2 y3 y4 y5 y6 y7 y8 y9 y10
      unfold spec_Proof.l0
      repeat' first
      | (with_reducible exact ih0 _ _ _ _ _ _ _ _ _ _ _)
      | (with_reducible exact spec_ProofParts.mono _ _ _)
      | (with_reducible exact spec_RootOf.mono _ _ _ _ _ _ _ _ _ _)
      | (with_reducible exact LeO.refl _)
      | (with_reducible exact LeO.none _)
      | (with_reducible refine LeO.ite ?_ ?_)
      | (with_reducible refine LeO.bind ?_ (fun _ => ?_))
      | exact ih0 _ _ _ _ _ _ _ _ _ _ _
      | exact spec_ProofParts.mono _ _ _
      | exact spec_RootOf.mono _ _ _ _ _ _ _ _ _ _
      | exact LeO.none _
      | refine LeO.ite ?_ ?_
      | refine LeO.bind ?_ (fun _ => ?_)
theorem spec_Proof.mono : ∀ a0 a1 a2 a3 a4 a5 a6 a7 k, LeO (spec_Proof.f k a0 a1 a2 a3 a4 a5 a6 a7) (spec_Proof.f (k + 1) a0 a1 a2 a3 a4 a5 a6 a7) := by
  intro a0 a1 a2 a3 a4 a5 a6 a7 k
  have ih0 := spec_Proof.mono_l k
  unfold spec_Proof.f
  repeat' first
      | (with_reducible exact ih0 _ _ _ _ _ _ _ _ _ _ _)
      | (with_reducible exact spec_ProofParts.mono _ _ _)
      | (with_reducible exact spec_RootOf.mono _ _ _ _ _ _ _ _ _ _)
      | (with_reducible exact LeO.refl _)
      | (with_reducible exact LeO.none _)
      | (with_reducible refine LeO.ite ?_ ?_)
      | (with_reducible refine LeO.bind ?_ (fun _ => ?_))
      | exact ih0 _ _ _ _ _ _ _ _ _ _ _
      | exact spec_ProofParts.mono _ _ _
      | exact spec_RootOf.mono _ _ _ _ _ _ _ _ _ _
      | exact LeO.none _
      | refine LeO.ite ?_ ?_
      | refine LeO.bind ?_ (fun _ => ?_)
end Go.Proofs.YtielnphmcaecdaaDoor.PAll
