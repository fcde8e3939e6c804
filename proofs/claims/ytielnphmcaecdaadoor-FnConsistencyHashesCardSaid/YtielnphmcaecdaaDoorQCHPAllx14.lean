-- Written by a program of this session (wip/tools)
import Derived.Test.YtielnphmcaecdaaDoorQCHPAllx0
import Derived.Test.YtielnphmcaecdaaDoorQCHPAllx7
import Derived.Test.YtielnphmcaecdaaDoorQCHPAllx13
namespace Go.Proofs.YtielnphmcaecdaaDoor.PAll
open Go.RowKit Go.Proofs.YtielnphmcaecdaaDoorW.PrintWords Go.Proofs.YtielnphmcaecdaaDoorW.PrintLast Go.Proofs.YtielnphmcaecdaaDoorW.PrintMore
attribute [local go_sem] max2_int min2_int max_two min_two max_three min_three max_four min_four   -- for this text's walks alone
set_option linter.unusedVariables false
set_option linter.unusedSimpArgs false
mutual
def spec_proofOf.l0 : Nat → List (S53) → Int → Int → Int → Int → List (S49) → Int → Int → Int → Int → Option ((List (S49)) × Int × Int × Int × Int)
  | 0, _, _, _, _, _, _, _, _, _, _ => none
  | k + 1, x10, x11, x12, x387000, x387001, x389000, x389001, x389002, x389003, x389004 => if x12 < x11 then (if 0 ≤ x12 then (if x12 < (x10.length : Int) then (if ((rd_T53 x10 x12).f1) = x387000 then ((spec_NodeOf.f k ((rd_T53 x10 x12).f0) ((rd_T53 x10 x12).f1)).bind fun bt391 => (if x389000.length < 8796093022208 then (spec_proofOf.l0 k x10 x11 (wrap64 (x12 + 1)) ((rd_T53 x10 x12).f0) x387001 (x389000 ++ [(⟨bt391.1, bt391.2⟩ : S49)]) x389001 x389002 x389003 x389004) else (none))) else (if (IntKind.u64.wrap (((rd_T53 x10 x12).f1) - ((rd_T53 x10 x12).f0))) = (IntKind.u64.wrap (x387001 - x387000)) then ((spec_NodeOf.f k ((rd_T53 x10 x12).f0) ((rd_T53 x10 x12).f1)).bind fun bt396 => (if x389000.length < 8796093022208 then (spec_proofOf.l0 k x10 x11 (wrap64 (x12 + 1)) x387000 ((rd_T53 x10 x12).f1) (x389000 ++ [(⟨bt396.1, bt396.2⟩ : S49)]) x389001 x389002 x389003 x389004) else (none))) else ((spec_Nodes.f k ((rd_T53 x10 x12).f0) ((rd_T53 x10 x12).f1)).bind fun t401 => (spec_proofOf.l1 k t401 (wrap64 ((t401.length : Int) - 1)) x10 x11 x12 x387000 x387001 x389000 x389001 x389002 (x389000.length : Int) (wrap64 ((x389000.length : Int) + (t401.length : Int))) ((rd_T53 x10 x12).f0) ((rd_T53 x10 x12).f1))))) else (none)) else (none)) else (some (x389000, x389001, x389002, x389003, x389004))
def spec_proofOf.l1 : Nat → List (S49) → Int → List (S53) → Int → Int → Int → Int → List (S49) → Int → Int → Int → Int → Int → Int → Option ((List (S49)) × Int × Int × Int × Int)
  | 0, _, _, _, _, _, _, _, _, _, _, _, _, _, _ => none
  | k + 1, x8, x9, x10, x11, x12, x387000, x387001, x389000, x389001, x389002, x389003, x389004, x391000, x391001 => if x9 ≥ 0 then (if 0 ≤ x9 then (if x9 < (x8.length : Int) then (if x389000.length < 8796093022208 then (spec_proofOf.l1 k x8 (wrap64 (x9 - 1)) x10 x11 x12 x387000 x387001 (x389000 ++ [(⟨(rd_T49 x8 x9).f0, (rd_T49 x8 x9).f1⟩ : S49)]) x389001 x389002 x389003 x389004 x391000 x391001) else (none)) else (none)) else (none)) else (spec_proofOf.l0 k x10 x11 (wrap64 (x12 + 1)) x387000 x391001 x389000 x389001 x389002 x389003 x389004)
end
def spec_proofOf.f (k : Nat) (a0_0 : Int) (a0_1 : Int) (l1 : List (S53)) : Option ((List (S49)) × Int × Int × Int × Int) := spec_proofOf.l0 k l1 (l1.length : Int) 0 a0_0 a0_1 ([] : List (S49)) 0 0 0 0
theorem spec_proofOf.mono_l : ∀ k, (∀ y0 y1 y2 y3 y4 y5 y6 y7 y8 y9, LeO (spec_proofOf.l0 k y0 y1 y2 y3 y4 y5 y6 y7 y8 y9) (spec_proofOf.l0 (k + 1) y0 y1 y2 y3 y4 y5 y6 y7 y8 y9)) ∧ (∀ y0 y1 y2 y3 y4 y5 y6 y7 y8 y9 y10 y11 y12 y13, LeO (spec_proofOf.l1 k y0 y1 y2 y3 y4 y5 y6 y7 y8 y9 y10 y11 y12 y13) (spec_proofOf.l1 (k + 1) y0 y1 y2 y3 y4 y5 y6 y7 y8 y9 y10 y11 y12 y13))
  | 0 => ⟨fun _ _ _ _ _ _ _ _ _ _ r h => by simp [spec_proofOf.l0] at h, fun _ _ _ _ _ _ _ _ _ _ _ _ _ _ r h => by simp [spec_proofOf.l1] at h⟩
  | k + 1 => by
    obtain ⟨ih0, ih1⟩ := spec_proofOf.mono_l k
    refine ⟨?_, ?_⟩
    · intro y0 y1 y2 y3 y4 y5 y6 y7 y8 y9
      unfold spec_proofOf.l0
      repeat' first
      | (with_reducible exact ih0 _ _ _ _ _ _ _ _ _ _)
      | (with_reducible exact ih1 _ _ _ _ _ _ _ _ _ _ _ _ _ _)
      | (with_reducible exact spec_NodeOf.mono _ _ _)
      | (with_reducible exact spec_Nodes.mono _ _ _)
      | (with_reducible exact LeO.refl _)
      | (with_reducible exact LeO.none _)
      | (with_reducible refine LeO.ite ?_ ?_)
      | (with_reducible refine LeO.bind ?_ (fun _ => ?_))
      | exact ih0 _ _ _ _ _ _ _ _ _ _
      | exact ih1 _ _ _ _ _ _ _ _ _ _ _ _ _ _
      | exact spec_NodeOf.mono _ _ _
      | exact spec_Nodes.mono _ _ _
      | exact LeO.none _
      | refine LeO.ite ?_ ?_
      | refine LeO.bind ?_ (fun _ => ?_)
    · intro y0 y1 y2 y3 y4 y5 y6 y7 y8 y9 y10 y11 y12 y13
      unfold spec_proofOf.l1
      repeat' first
      | (with_reducible exact ih0 _ _ _ _ _ _ _ _ _ _)
      | (with_reducible exact ih1 _ _ _ _ _ _ _ _ _ _ _ _ _ _)
      | (with_reducible exact spec_NodeOf.mono _ _ _)
      | (with_reducible exact spec_Nodes.mono _ _ _)
      | (with_reducible exact LeO.refl _)
      | (with_reducible exact LeO.none _)
      | (with_reducible refine LeO.ite ?_ ?_)
      | (with_reducible refine LeO.bind ?_ (fun _ => ?_))
      | exact ih0 _ _ _ _ _ _ _ _ _ _
      | exact ih1 _ _ _ _ _ _ _ _ _ _ _ _ _ _
      | exact spec_NodeOf.mono _ _ _
      | exact spec_Nodes.mono _ _ _
      | exact LeO.none _
      | refine LeO.ite ?_ ?_
      | refine LeO.bind ?_ (fun _ => ?_)
theorem spec_proofOf.mono : ∀ a0 a1 a2 k, LeO (spec_proofOf.f k a0 a1 a2) (spec_proofOf.f (k + 1) a0 a1 a2) := by
  intro a0 a1 a2 k
  obtain ⟨ih0, ih1⟩ := spec_proofOf.mono_l k
  unfold spec_proofOf.f
  repeat' first
      | (with_reducible exact ih0 _ _ _ _ _ _ _ _ _ _)
      | (with_reducible exact ih1 _ _ _ _ _ _ _ _ _ _ _ _ _ _)
      | (with_reducible exact spec_NodeOf.mono _ _ _)
      | (with_reducible exact spec_Nodes.mono _ _ _)
      | (with_reducible exact LeO.refl _)
      | (with_reducible exact LeO.none _)
      | (with_reducible refine LeO.ite ?_ ?_)
      | (with_reducible refine LeO.bind ?_ (fun _ => ?_))
      | exact ih0 _ _ _ _ _ _ _ _ _ _
      | exact ih1 _ _ _ _ _ _ _ _ _ _ _ _ _ _
      | exact spec_NodeOf.mono _ _ _
      | exact spec_Nodes.mono _ _ _
      | exact LeO.none _
      | refine LeO.ite ?_ ?_
      | refine LeO.bind ?_ (fun _ => ?_)
def spec_proofOf.T6 : Bool × List (List Nat × List Nat) := (true, [([], []), ([0], [0]), ([], []), ([2], [2]), ([3], [3]), ([1, 4, 3], [1, 4]), ([0, 1, 2, 3, 4, 5], []), ([6, 5, 5, 0, 1, 2, 3, 4, 5], [5, 6])])
def spec_proofOf.B6 : List Nat := [0, 1, 0, 4, 12, 31, 63, 127]
theorem spec_proofOf.tab6 : rtab .any (opsOf Tryd.f68 6) = spec_proofOf.T6 := by kernel_rfl
theorem spec_proofOf.bits6 : waitsOk spec_proofOf.T6.2 spec_proofOf.B6 = true := by kernel_rfl
def spec_proofOf.T9 : Bool × List (List Nat × List Nat) := (true, [([], []), ([0], [0]), ([], []), ([2], [2]), ([3], [3]), ([1, 4, 3], [1, 4]), ([0, 1, 2, 3, 4, 5], []), ([6, 5, 5, 0, 1, 2, 3, 4, 5], [5, 6])])
def spec_proofOf.B9 : List Nat := [0, 1, 0, 4, 12, 31, 63, 127]
theorem spec_proofOf.tab9 : rtab .any (opsOf Tryd.f68 9) = spec_proofOf.T9 := by kernel_rfl
theorem spec_proofOf.bits9 : waitsOk spec_proofOf.T9.2 spec_proofOf.B9 = true := by kernel_rfl
def spec_proofOf.T15 : Bool × List (List Nat × List Nat) := (true, [([], []), ([0], [0]), ([], []), ([], []), ([2, 3], [2, 3]), ([4], [4]), ([5], [5]), ([1, 6], [1, 6]), ([0, 1, 2, 3, 4, 5, 6, 7], []), ([8, 7, 7, 0, 1, 2, 3, 4, 5, 6, 7], [7, 8])])
def spec_proofOf.B15 : List Nat := [0, 1, 0, 0, 12, 28, 60, 127, 255, 511]
theorem spec_proofOf.tab15 : rtab .any (opsOf Tryd.f68 15) = spec_proofOf.T15 := by kernel_rfl
theorem spec_proofOf.bits15 : waitsOk spec_proofOf.T15.2 spec_proofOf.B15 = true := by kernel_rfl
set_option maxHeartbeats 8000000 in
set_option maxRecDepth 100000 in
theorem spec_proofOf.calls (k : Nat) (a0_0 : Int) (a0_1 : Int) (A1 : Option Addr) (c1 : Nat) (l1 : List (S53)) (r1 : List (S49)) (r2 : Int) (r3 : Int) (r4 : Int) (r5 : Int) (w : World) (hr1 : Kd.C k53 w A1 l1.length l1) (hc1 : l1.length ≤ c1) (h : spec_proofOf.f k a0_0 a0_1 l1 = some (r1, r2, r3, r4, r5)) :
    Calls Tryd.prog 68 #[.agg #[.int .u64 a0_0, .int .u64 a0_1], .slice A1 l1.length c1] w fun e w' => ∃ v0_ : Value, e = .returned (.agg #[v0_, .int .u64 r2, .int .u64 r3, .int .i64 r4, .int .i64 r5]) ∧ Kd.R k49 49 w' w.heap.size (fun _ => True) v0_ r1 ∧ Below w.heap.size w w' := by
  have hu53 := Tryd.underlying53
  have hu61 := Tryd.underlying61
  have hu49 := Tryd.underlying49
  have HR1 := Aside0.mk hr1
  have HC1 := Aside0.mk hc1
  clear hr1 hc1
  have HB := Aside0.mk (Below.refl w.heap.size w)
  have H : (spec_proofOf.l0 k l1 (l1.length : Int) 0 a0_0 a0_1 ([] : List (S49)) 0 0 0 0) = some (r1, r2, r3, r4, r5) := h
  clear h
  have H' := Aside0.mk H
  clear H
  go_enter Tryd.func68, Tryd.ntmps68
  go_wp2_with (first | ((with_reducible refine gate_dst (N := 2) rfl ?_); refine box_event ?hg (N := 2) ?hd (cs := #[.int .u64 a0_0, .int .u64 a0_1]) (t := 53) ?hr ?_; (case hd => rfl); (case hg => rfl); (case hr => first | (go_simp; done) | (go_simp; rfl)); intro gb386 hg w3 hbox hb; have n0_ := Aside0.mk (below_step (by repeat (first | (with_reducible first | exact HB.out | apply below_alloc | apply pw_below_drewN | apply below_drew1) | exact HB.out)) hb); have n1_ := Aside0.mk (hbox); have n2_ := Aside0.mk ((by rw [hg]; exact (below_size (by repeat (first | (with_reducible first | exact HB.out | apply below_alloc | apply pw_below_drewN | apply below_drew1) | exact HB.out))) : w.heap.size ≤ gb386)); have n3_ := Aside0.mk ((by rw [hg]; exact (below_size (by repeat (first | (with_reducible first | exact HB.out | apply below_alloc | apply pw_below_drewN | apply below_drew1) | exact HB.out))) : w.heap.size ≤ gb386)); clear HB; have HB := n0_; have BK386 := n1_; have GW386 := n2_; have GE386 := n3_; clear n0_ n1_ n2_ n3_; clear hb hbox hg) | ((with_reducible refine gate_dst (N := 4) rfl ?_); refine box_event ?hg (N := 4) ?hd (cs := #[.slice none 0 0, .int .u64 0, .int .u64 0, .int .i64 0, .int .i64 0]) (t := 61) ?hr ?_; (case hd => rfl); (case hg => rfl); (case hr => first | (go_simp; done) | (go_simp; rfl)); intro gb387 hg w4 hbox hb; have n0_ := Aside0.mk (blk_below (g := gb386) (o := .cells #[.int .u64 a0_0, .int .u64 a0_1] 53 (0, 0)) (by (with_reducible repeat (first | refine blk_drewN ?_ _ | refine blk_drew ?_ | refine blk_alloc ?_ _)); exact BK386.out) hb); have n1_ := Aside0.mk (below_step (by repeat (first | (with_reducible first | exact HB.out | apply below_alloc | apply pw_below_drewN | apply below_drew1 | refine below_set ?_ GE386.out) | exact HB.out)) hb); have n2_ := Aside0.mk (hbox); have n3_ := Aside0.mk ((by rw [hg]; exact (below_size (by repeat (first | (with_reducible first | exact HB.out | apply below_alloc | apply pw_below_drewN | apply below_drew1 | refine below_set ?_ GE386.out) | exact HB.out))) : w.heap.size ≤ gb387)); have n4_ := Aside0.mk ((by rw [hg]; exact (below_size (by repeat (first | (with_reducible first | exact HB.out | apply below_alloc | apply pw_below_drewN | apply below_drew1 | refine below_set ?_ GE386.out) | exact HB.out))) : w.heap.size ≤ gb387)); have n5_ := Aside0.mk ((by rw [hg]; exact Nat.ne_of_lt (blk_lt (g := gb386) (o := .cells #[.int .u64 a0_0, .int .u64 a0_1] 53 (0, 0)) (by (with_reducible repeat (first | refine blk_drewN ?_ _ | refine blk_drew ?_ | refine blk_alloc ?_ _)); exact BK386.out)) : gb386 ≠ gb387)); have n6_ := Aside0.mk ((by rw [hg]; exact Nat.ne_of_gt (blk_lt (g := gb386) (o := .cells #[.int .u64 a0_0, .int .u64 a0_1] 53 (0, 0)) (by (with_reducible repeat (first | refine blk_drewN ?_ _ | refine blk_drew ?_ | refine blk_alloc ?_ _)); exact BK386.out)) : gb387 ≠ gb386)); clear BK386; clear HB; have BK386 := n0_; have HB := n1_; have BK387 := n2_; have GW387 := n3_; have GE387 := n4_; have NB386_387 := n5_; have NB387_386 := n6_; clear n0_ n1_ n2_ n3_ n4_ n5_ n6_; clear hb hbox hg) | ((with_reducible refine gate_dst (N := 5) rfl ?_); refine box_event ?hg (N := 5) ?hd (cs := #[.slice none 0 0, .int .u64 0, .int .u64 0, .int .i64 0, .int .i64 0]) (t := 61) ?hr ?_; (case hd => rfl); (case hg => rfl); (case hr => first | (go_simp; done) | (go_simp; rfl)); intro gb388 hg w5 hbox hb; have n0_ := Aside0.mk (blk_below (g := gb386) (o := .cells #[.int .u64 a0_0, .int .u64 a0_1] 53 (0, 0)) (by (with_reducible repeat (first | refine blk_drewN ?_ _ | refine blk_drew ?_ | refine blk_alloc ?_ _)); exact BK386.out) hb); have n1_ := Aside0.mk (blk_below (g := gb387) (o := .cells #[.slice none 0 0, .int .u64 0, .int .u64 0, .int .i64 0, .int .i64 0] 61 (0, 0)) (by (with_reducible repeat (first | refine blk_drewN ?_ _ | refine blk_drew ?_ | refine blk_alloc ?_ _)); exact BK387.out) hb); have n2_ := Aside0.mk (below_step (by repeat (first | (with_reducible first | exact HB.out | apply below_alloc | apply pw_below_drewN | apply below_drew1 | refine below_set ?_ GE386.out | refine below_set ?_ GE387.out) | exact HB.out)) hb); have n3_ := Aside0.mk (hbox); have n4_ := Aside0.mk ((by rw [hg]; exact (below_size (by repeat (first | (with_reducible first | exact HB.out | apply below_alloc | apply pw_below_drewN | apply below_drew1 | refine below_set ?_ GE386.out | refine below_set ?_ GE387.out) | exact HB.out))) : w.heap.size ≤ gb388)); have n5_ := Aside0.mk ((by rw [hg]; exact (below_size (by repeat (first | (with_reducible first | exact HB.out | apply below_alloc | apply pw_below_drewN | apply below_drew1 | refine below_set ?_ GE386.out | refine below_set ?_ GE387.out) | exact HB.out))) : w.heap.size ≤ gb388)); have n6_ := Aside0.mk ((by rw [hg]; exact Nat.ne_of_lt (blk_lt (g := gb386) (o := .cells #[.int .u64 a0_0, .int .u64 a0_1] 53 (0, 0)) (by (with_reducible repeat (first | refine blk_drewN ?_ _ | refine blk_drew ?_ | refine blk_alloc ?_ _)); exact BK386.out)) : gb386 ≠ gb388)); have n7_ := Aside0.mk ((by rw [hg]; exact Nat.ne_of_gt (blk_lt (g := gb386) (o := .cells #[.int .u64 a0_0, .int .u64 a0_1] 53 (0, 0)) (by (with_reducible repeat (first | refine blk_drewN ?_ _ | refine blk_drew ?_ | refine blk_alloc ?_ _)); exact BK386.out)) : gb388 ≠ gb386)); have n8_ := Aside0.mk ((by rw [hg]; exact Nat.ne_of_lt (blk_lt (g := gb387) (o := .cells #[.slice none 0 0, .int .u64 0, .int .u64 0, .int .i64 0, .int .i64 0] 61 (0, 0)) (by (with_reducible repeat (first | refine blk_drewN ?_ _ | refine blk_drew ?_ | refine blk_alloc ?_ _)); exact BK387.out)) : gb387 ≠ gb388)); have n9_ := Aside0.mk ((by rw [hg]; exact Nat.ne_of_gt (blk_lt (g := gb387) (o := .cells #[.slice none 0 0, .int .u64 0, .int .u64 0, .int .i64 0, .int .i64 0] 61 (0, 0)) (by (with_reducible repeat (first | refine blk_drewN ?_ _ | refine blk_drew ?_ | refine blk_alloc ?_ _)); exact BK387.out)) : gb388 ≠ gb387)); clear BK386; clear BK387; clear HB; have BK386 := n0_; have BK387 := n1_; have HB := n2_; have BK388 := n3_; have GW388 := n4_; have GE388 := n5_; have NB386_388 := n6_; have NB388_386 := n7_; have NB387_388 := n8_; have NB388_387 := n9_; clear n0_ n1_ n2_ n3_ n4_ n5_ n6_ n7_ n8_ n9_; clear hb hbox hg))
  try simp only [Act.put, List.setIfInBounds_toArray, List.set_cons_zero, List.set_cons_succ]
  go_loopg [12] k (fun kq v12 w' => ∃ (x12_1 : Int) (x387000_1 : Int) (x387001_1 : Int) (x389000_1 : List (S49)) (x389003_1 : Int) (x389004_1 : Int) (u389000 : Value), v12 = .int .i64 x12_1 ∧ Aside0 (spec_proofOf.l0 kq l1 (l1.length : Int) x12_1 x387000_1 x387001_1 x389000_1 0 0 x389003_1 x389004_1 = some (r1, r2, r3, r4, r5)) ∧ Aside0 (kq ≤ k) ∧ Aside0 (Kd.R k49 49 w' w.heap.size (fun _ => True) u389000 x389000_1) ∧ Aside0 (w'.heap[gb386]? = some (.cells #[.int .u64 x387000_1, .int .u64 x387001_1] 53 (0, 0))) ∧ Aside0 (w'.heap[gb387]? = some (.cells #[(.slice none 0 0), .int .u64 0, .int .u64 0, .int .i64 0, .int .i64 0] 61 (0, 0))) ∧ Aside0 (w'.heap[gb388]? = some (.cells #[u389000, .int .u64 0, .int .u64 0, .int .i64 x389003_1, .int .i64 x389004_1] 61 (0, 0))) ∧ Aside0 (Below w.heap.size w w'))
  case atStart => exact ⟨(0), (a0_0), (a0_1), (([] : List (S49))), (0), (0), (.slice none 0 0), (by first | rfl | (simp; done) | (simp [*]; done)), H', ⟨Nat.le_refl _⟩, ⟨by first | exact Kd.R_nil _ _ _ _ _ | exact Kd.N_nil _ _ _ _ _ | exact Kd.V_nil _ _ _ _ _ | exact Kd.Q_nil _ _ _ _ _ | exact Kd.S_nil _ _ _ _ _⟩, ⟨by (with_reducible repeat (first | refine blk_drewN ?_ _ | refine blk_drew ?_ | refine blk_alloc ?_ _)); exact BK386.out⟩, ⟨by (with_reducible repeat (first | refine blk_drewN ?_ _ | refine blk_drew ?_ | refine blk_alloc ?_ _)); exact BK387.out⟩, ⟨by (with_reducible repeat (first | refine blk_drewN ?_ _ | refine blk_drew ?_ | refine blk_alloc ?_ _)); exact BK388.out⟩, ⟨by repeat (first | (with_reducible first | exact HB.out | apply below_alloc | apply pw_below_drewN | apply below_drew1 | refine below_set ?_ GE386.out | refine below_set ?_ GE387.out | refine below_set ?_ GE388.out) | exact HB.out)⟩⟩
  case round =>
    clear H'
    try clear c1
    try clear p2
    obtain ⟨x12_1, x387000_1, x387001_1, x389000_1, x389003_1, x389004_1, u389000, rfl, HA, HK1, HO_389000, BK386, BK387, BK388, HB⟩ := hrel
    cases gk with
    | zero => exact absurd HA.out (by simp [spec_proofOf.l0])
    | succ k1 =>
      have H := HA.out
      clear HA
      simp only [spec_proofOf.l0] at H
      by_cases c6 : x12_1 < (l1.length : Int)
      · rw [if_pos c6] at H
        have c6b0 : decide (x12_1 < (l1.length : Int)) = true := decide_eq_true c6
        clear c6
        by_cases c7 : 0 ≤ x12_1
        · rw [if_pos c7] at H
          have c7b0 : decide (0 ≤ x12_1) = true := decide_eq_true c7
          clear c7
          by_cases c8 : x12_1 < (l1.length : Int)
          · rw [if_pos c8] at H
            have c8b0 : decide (x12_1 < (l1.length : Int)) = true := decide_eq_true c8
            clear c8
            by_cases c9 : ((rd_T53 l1 x12_1).f1) = x387000_1
            · rw [if_pos c9] at H
              have c9b0 : (((rd_T53 l1 x12_1).f1) == x387000_1) = true := beq_iff_eq.mpr c9
              have c9b1 : (((rd_T53 l1 x12_1).f1) != x387000_1) = false := bne_eq_false_iff_eq.mpr c9
              clear c9
              replace H := Option.bind_eq_some_iff.mp H
              obtain ⟨⟨t391, t392⟩, A100, H⟩ := H
              replace H : (if x389000_1.length < 8796093022208 then (spec_proofOf.l0 k1 l1 (l1.length : Int) (wrap64 (x12_1 + 1)) ((rd_T53 l1 x12_1).f0) x387001_1 (x389000_1 ++ [(⟨t391, t392⟩ : S49)]) 0 0 x389003_1 x389004_1) else (none)) = some (r1, r2, r3, r4, r5) := H
              have A10 := Aside0.mk A100
              clear A100
              by_cases c11 : x389000_1.length < 8796093022208
              · rw [if_pos c11] at H
                have LMc11 := Aside0.mk c11
                clear c11
                obtain ⟨y393, hy393⟩ : ∃ y_ : List (S49), y_ = (x389000_1 ++ [(⟨t391, t392⟩ : S49)]) := ⟨_, rfl⟩
                replace H : (spec_proofOf.l0 k1 l1 (l1.length : Int) (wrap64 (x12_1 + 1)) ((rd_T53 l1 x12_1).f0) x387001_1 y393 0 0 x389003_1 x389004_1) = some (r1, r2, r3, r4, r5) := by first | (rw [hy393]; with_reducible exact H) | (have H2_ := (Option.bind_some _ _).symm.trans H; rw [hy393]; with_reducible exact H2_) | (have H2_ := (Option.bind_some _ _).symm.trans H; with_reducible exact H2_) | with_reducible exact H | (rw [hy393]; exact H) | exact H
                have Ny393 := Aside0.mk hy393
                clear hy393
                have H' := Aside0.mk H
                clear H
                have p389 : 0 ≤ (x12_1 : Int) := of_decide_eq_true (by first | (with_reducible assumption) | assumption)
                have q389 : x12_1 < (l1.length : Int) := of_decide_eq_true (by first | (with_reducible assumption) | assumption)
                obtain ⟨ad389, e389, hx389_0, hx389_1⟩ := at_T53 HR1.out x12_1 p389 q389
                cases e389
                replace hx389_0 := (HB.out.cell (World.block_lt_of_cell? w _ hx389_0)).trans hx389_0
                replace hx389_1 := (HB.out.cell (World.block_lt_of_cell? w _ hx389_1)).trans hx389_1
                replace p389 := eq_true p389
                replace q389 := eq_true q389
                try go_wp2_with (first | ((with_reducible refine gate_dst (N := 7) rfl ?_); refine box_event ?hg (N := 7) ?hd (cs := #[.int .u64 0, .int .u64 0]) (t := 53) ?hr ?_; (case hd => rfl); (case hg => rfl); (case hr => first | (go_simp; done) | (go_simp; rfl)); intro gb390 hg w12 hbox hb; have n0_ := Aside0.mk (Kd.R_below (by (with_reducible repeat (first | apply Kd.R_alloc | apply Kd.R_drewN | apply Kd.R_drew)); exact HO_389000.out) hb); have n1_ := Aside0.mk (blk_below (g := gb386) (o := .cells #[.int .u64 x387000_1, .int .u64 x387001_1] 53 (0, 0)) (by (with_reducible repeat (first | refine blk_drewN ?_ _ | refine blk_drew ?_ | refine blk_alloc ?_ _)); exact BK386.out) hb); have n2_ := Aside0.mk (blk_below (g := gb387) (o := .cells #[.slice none 0 0, .int .u64 0, .int .u64 0, .int .i64 0, .int .i64 0] 61 (0, 0)) (by (with_reducible repeat (first | refine blk_drewN ?_ _ | refine blk_drew ?_ | refine blk_alloc ?_ _)); exact BK387.out) hb); have n3_ := Aside0.mk (blk_below (g := gb388) (o := .cells #[u389000, .int .u64 0, .int .u64 0, .int .i64 x389003_1, .int .i64 x389004_1] 61 (0, 0)) (by (with_reducible repeat (first | refine blk_drewN ?_ _ | refine blk_drew ?_ | refine blk_alloc ?_ _)); exact BK388.out) hb); have n4_ := Aside0.mk (below_step (by repeat (first | (with_reducible first | exact HB.out | apply below_alloc | apply pw_below_drewN | apply below_drew1 | refine below_set ?_ GE386.out | refine below_set ?_ GE387.out | refine below_set ?_ GE388.out) | exact HB.out)) hb); have n5_ := Aside0.mk (hbox); have n6_ := Aside0.mk ((by rw [hg]; exact (below_size (by repeat (first | (with_reducible first | exact HB.out | apply below_alloc | apply pw_below_drewN | apply below_drew1 | refine below_set ?_ GE386.out | refine below_set ?_ GE387.out | refine below_set ?_ GE388.out) | exact HB.out))) : w.heap.size ≤ gb390)); have n7_ := Aside0.mk ((by rw [hg]; exact (below_size (by repeat (first | (with_reducible first | exact HB.out | apply below_alloc | apply pw_below_drewN | apply below_drew1 | refine below_set ?_ GE386.out | refine below_set ?_ GE387.out | refine below_set ?_ GE388.out) | exact HB.out))) : w.heap.size ≤ gb390)); have n8_ := Aside0.mk ((by rw [hg]; exact Nat.ne_of_lt (blk_lt (g := gb386) (o := .cells #[.int .u64 x387000_1, .int .u64 x387001_1] 53 (0, 0)) (by (with_reducible repeat (first | refine blk_drewN ?_ _ | refine blk_drew ?_ | refine blk_alloc ?_ _)); exact BK386.out)) : gb386 ≠ gb390)); have n9_ := Aside0.mk ((by rw [hg]; exact Nat.ne_of_gt (blk_lt (g := gb386) (o := .cells #[.int .u64 x387000_1, .int .u64 x387001_1] 53 (0, 0)) (by (with_reducible repeat (first | refine blk_drewN ?_ _ | refine blk_drew ?_ | refine blk_alloc ?_ _)); exact BK386.out)) : gb390 ≠ gb386)); have n10_ := Aside0.mk ((by rw [hg]; exact Nat.ne_of_lt (blk_lt (g := gb387) (o := .cells #[.slice none 0 0, .int .u64 0, .int .u64 0, .int .i64 0, .int .i64 0] 61 (0, 0)) (by (with_reducible repeat (first | refine blk_drewN ?_ _ | refine blk_drew ?_ | refine blk_alloc ?_ _)); exact BK387.out)) : gb387 ≠ gb390)); have n11_ := Aside0.mk ((by rw [hg]; exact Nat.ne_of_gt (blk_lt (g := gb387) (o := .cells #[.slice none 0 0, .int .u64 0, .int .u64 0, .int .i64 0, .int .i64 0] 61 (0, 0)) (by (with_reducible repeat (first | refine blk_drewN ?_ _ | refine blk_drew ?_ | refine blk_alloc ?_ _)); exact BK387.out)) : gb390 ≠ gb387)); have n12_ := Aside0.mk ((by rw [hg]; exact Nat.ne_of_lt (blk_lt (g := gb388) (o := .cells #[u389000, .int .u64 0, .int .u64 0, .int .i64 x389003_1, .int .i64 x389004_1] 61 (0, 0)) (by (with_reducible repeat (first | refine blk_drewN ?_ _ | refine blk_drew ?_ | refine blk_alloc ?_ _)); exact BK388.out)) : gb388 ≠ gb390)); have n13_ := Aside0.mk ((by rw [hg]; exact Nat.ne_of_gt (blk_lt (g := gb388) (o := .cells #[u389000, .int .u64 0, .int .u64 0, .int .i64 x389003_1, .int .i64 x389004_1] 61 (0, 0)) (by (with_reducible repeat (first | refine blk_drewN ?_ _ | refine blk_drew ?_ | refine blk_alloc ?_ _)); exact BK388.out)) : gb390 ≠ gb388)); clear HO_389000; clear BK386; clear BK387; clear BK388; clear HB; have HO_389000 := n0_; have BK386 := n1_; have BK387 := n2_; have BK388 := n3_; have HB := n4_; have BK390 := n5_; have GW390 := n6_; have GE390 := n7_; have NB386_390 := n8_; have NB390_386 := n9_; have NB387_390 := n10_; have NB390_387 := n11_; have NB388_390 := n12_; have NB390_388 := n13_; clear n0_ n1_ n2_ n3_ n4_ n5_ n6_ n7_ n8_ n9_ n10_ n11_ n12_ n13_; clear hb hbox hg; have hnb13 := NB390_386.out; have hnc13 := NB386_390.out; have hnb14 := NB390_387.out; have hnc14 := NB387_390.out; have hnb15 := NB390_388.out; have hnc15 := NB388_390.out; have hcz16_0 : w12.cell? ⟨gb390, 0, none⟩ = some (.int .u64 0) := (blk_cell BK390.out 0).trans rfl; have hcz16_1 : w12.cell? ⟨gb390, 1, none⟩ = some (.int .u64 0) := (blk_cell BK390.out 1).trans rfl; have hfz16_0 := blk_frozen BK390.out 0; have hfz16_1 := blk_frozen BK390.out 1; have hnb17 := NB386_387.out; have hnc17 := NB387_386.out; have hnb18 := NB386_388.out; have hnc18 := NB388_386.out; have hcz19_0 : w12.cell? ⟨gb386, 0, none⟩ = some (.int .u64 x387000_1) := (blk_cell BK386.out 0).trans rfl; have hcz19_1 : w12.cell? ⟨gb386, 1, none⟩ = some (.int .u64 x387001_1) := (blk_cell BK386.out 1).trans rfl; have hfz19_0 := blk_frozen BK386.out 0; have hfz19_1 := blk_frozen BK386.out 1))
                have n0_ : Aside0 (Kd.R k49 49 ((w12.setCell ⟨gb390, 0, none⟩ (.int .u64 ((rd_T53 l1 x12_1).f0))).setCell ⟨gb390, 1, none⟩ (.int .u64 ((rd_T53 l1 x12_1).f1))) w.heap.size (fun _ => True) u389000 x389000_1) := ⟨by (with_reducible repeat (first | apply Kd.R_alloc | apply Kd.R_drewN | apply Kd.R_drew)); exact Kd.R_mono (Kd.R_far (p := ⟨gb390, 1, none⟩) (Kd.R_far (p := ⟨gb390, 0, none⟩) (Kd.R_types HO_389000.out BK390.out (by decide)) (fun _ hk => hk.2) (.int .u64 ((rd_T53 l1 x12_1).f0))) (fun _ hk => hk.2) (.int .u64 ((rd_T53 l1 x12_1).f1))) (fun _ hk => trivial)⟩
                have n1_ : Aside0 (((w12.setCell ⟨gb390, 0, none⟩ (.int .u64 ((rd_T53 l1 x12_1).f0))).setCell ⟨gb390, 1, none⟩ (.int .u64 ((rd_T53 l1 x12_1).f1))).heap[gb386]? = some (.cells #[.int .u64 x387000_1, .int .u64 x387001_1] 53 (0, 0))) := ⟨by (with_reducible repeat (first | refine blk_drewN ?_ _ | refine blk_drew ?_ | refine blk_alloc ?_ _)); refine blk_far ?_ NB386_390.out _; (with_reducible repeat (first | refine blk_drewN ?_ _ | refine blk_drew ?_ | refine blk_alloc ?_ _)); refine blk_far ?_ NB386_390.out _; (with_reducible repeat (first | refine blk_drewN ?_ _ | refine blk_drew ?_ | refine blk_alloc ?_ _)); exact BK386.out⟩
                have n2_ : Aside0 (((w12.setCell ⟨gb390, 0, none⟩ (.int .u64 ((rd_T53 l1 x12_1).f0))).setCell ⟨gb390, 1, none⟩ (.int .u64 ((rd_T53 l1 x12_1).f1))).heap[gb387]? = some (.cells #[.slice none 0 0, .int .u64 0, .int .u64 0, .int .i64 0, .int .i64 0] 61 (0, 0))) := ⟨by (with_reducible repeat (first | refine blk_drewN ?_ _ | refine blk_drew ?_ | refine blk_alloc ?_ _)); refine blk_far ?_ NB387_390.out _; (with_reducible repeat (first | refine blk_drewN ?_ _ | refine blk_drew ?_ | refine blk_alloc ?_ _)); refine blk_far ?_ NB387_390.out _; (with_reducible repeat (first | refine blk_drewN ?_ _ | refine blk_drew ?_ | refine blk_alloc ?_ _)); exact BK387.out⟩
                have n3_ : Aside0 (((w12.setCell ⟨gb390, 0, none⟩ (.int .u64 ((rd_T53 l1 x12_1).f0))).setCell ⟨gb390, 1, none⟩ (.int .u64 ((rd_T53 l1 x12_1).f1))).heap[gb388]? = some (.cells #[u389000, .int .u64 0, .int .u64 0, .int .i64 x389003_1, .int .i64 x389004_1] 61 (0, 0))) := ⟨by (with_reducible repeat (first | refine blk_drewN ?_ _ | refine blk_drew ?_ | refine blk_alloc ?_ _)); refine blk_far ?_ NB388_390.out _; (with_reducible repeat (first | refine blk_drewN ?_ _ | refine blk_drew ?_ | refine blk_alloc ?_ _)); refine blk_far ?_ NB388_390.out _; (with_reducible repeat (first | refine blk_drewN ?_ _ | refine blk_drew ?_ | refine blk_alloc ?_ _)); exact BK388.out⟩
                have n4_ : Aside0 (((w12.setCell ⟨gb390, 0, none⟩ (.int .u64 ((rd_T53 l1 x12_1).f0))).setCell ⟨gb390, 1, none⟩ (.int .u64 ((rd_T53 l1 x12_1).f1))).heap[gb390]? = some (.cells #[.int .u64 ((rd_T53 l1 x12_1).f0), .int .u64 ((rd_T53 l1 x12_1).f1)] 53 (0, 0))) := ⟨by (with_reducible repeat (first | refine blk_drewN ?_ _ | refine blk_drew ?_ | refine blk_alloc ?_ _)); refine blk_put (cs := #[.int .u64 ((rd_T53 l1 x12_1).f0), .int .u64 0]) ?_ 1 _ rfl; (with_reducible repeat (first | refine blk_drewN ?_ _ | refine blk_drew ?_ | refine blk_alloc ?_ _)); refine blk_put (cs := #[.int .u64 0, .int .u64 0]) ?_ 0 _ rfl; (with_reducible repeat (first | refine blk_drewN ?_ _ | refine blk_drew ?_ | refine blk_alloc ?_ _)); exact BK390.out⟩
                have n5_ : Aside0 (Below w.heap.size w ((w12.setCell ⟨gb390, 0, none⟩ (.int .u64 ((rd_T53 l1 x12_1).f0))).setCell ⟨gb390, 1, none⟩ (.int .u64 ((rd_T53 l1 x12_1).f1)))) := ⟨by repeat (first | (with_reducible first | exact HB.out | apply below_alloc | apply pw_below_drewN | apply below_drew1 | refine below_set ?_ GE386.out | refine below_set ?_ GE387.out | refine below_set ?_ GE388.out | refine below_set ?_ GE390.out) | exact HB.out)⟩
                (try clear HO_389000)
                (try clear BK386)
                (try clear BK387)
                (try clear BK388)
                (try clear BK390)
                (try clear HB)
                generalize ((w12.setCell ⟨gb390, 0, none⟩ (.int .u64 ((rd_T53 l1 x12_1).f0))).setCell ⟨gb390, 1, none⟩ (.int .u64 ((rd_T53 l1 x12_1).f1))) = w20 at n0_ n1_ n2_ n3_ n4_ n5_ ⊢
                have HO_389000 := n0_
                have BK386 := n1_
                have BK387 := n2_
                have BK388 := n3_
                have BK390 := n4_
                have HB := n5_
                clear n0_ n1_ n2_ n3_ n4_ n5_
                (try (rw [drewN_self w20]; generalize hq_ : World.drewN w20 _ = w20; have n0_ : Aside0 (Kd.R k49 49 w20 w.heap.size (fun _ => True) u389000 x389000_1) := ⟨by rw [← hq_]; exact (by (with_reducible repeat (first | apply Kd.R_alloc | apply Kd.R_drewN | apply Kd.R_drew)); exact HO_389000.out)⟩; have n1_ : Aside0 (w20.heap[gb386]? = some (.cells #[.int .u64 x387000_1, .int .u64 x387001_1] 53 (0, 0))) := ⟨by rw [← hq_]; exact (by (with_reducible repeat (first | refine blk_drewN ?_ _ | refine blk_drew ?_ | refine blk_alloc ?_ _)); exact BK386.out)⟩; have n2_ : Aside0 (w20.heap[gb387]? = some (.cells #[.slice none 0 0, .int .u64 0, .int .u64 0, .int .i64 0, .int .i64 0] 61 (0, 0))) := ⟨by rw [← hq_]; exact (by (with_reducible repeat (first | refine blk_drewN ?_ _ | refine blk_drew ?_ | refine blk_alloc ?_ _)); exact BK387.out)⟩; have n3_ : Aside0 (w20.heap[gb388]? = some (.cells #[u389000, .int .u64 0, .int .u64 0, .int .i64 x389003_1, .int .i64 x389004_1] 61 (0, 0))) := ⟨by rw [← hq_]; exact (by (with_reducible repeat (first | refine blk_drewN ?_ _ | refine blk_drew ?_ | refine blk_alloc ?_ _)); exact BK388.out)⟩; have n4_ : Aside0 (w20.heap[gb390]? = some (.cells #[.int .u64 ((rd_T53 l1 x12_1).f0), .int .u64 ((rd_T53 l1 x12_1).f1)] 53 (0, 0))) := ⟨by rw [← hq_]; exact (by (with_reducible repeat (first | refine blk_drewN ?_ _ | refine blk_drew ?_ | refine blk_alloc ?_ _)); exact BK390.out)⟩; have n5_ : Aside0 (Below w.heap.size w w20) := ⟨by rw [← hq_]; exact (by repeat (first | (with_reducible first | exact HB.out | apply below_alloc | apply pw_below_drewN | apply below_drew1 | refine below_set ?_ GE386.out | refine below_set ?_ GE387.out | refine below_set ?_ GE388.out | refine below_set ?_ GE390.out) | exact HB.out))⟩; clear HO_389000 BK386 BK387 BK388 BK390 HB hq_; have HO_389000 := n0_; have BK386 := n1_; have BK387 := n2_; have BK388 := n3_; have BK390 := n4_; have HB := n5_; clear n0_ n1_ n2_ n3_ n4_ n5_))
                have n0_ := Aside0.mk (Kd.R_drew HO_389000.out)
                have n1_ := Aside0.mk (blk_drew BK386.out)
                have n2_ := Aside0.mk (blk_drew BK387.out)
                have n3_ := Aside0.mk (blk_drew BK388.out)
                have n4_ := Aside0.mk (blk_drew BK390.out)
                have n5_ := Aside0.mk (below_drew1 HB.out)
                clear HO_389000
                clear BK386
                clear BK387
                clear BK388
                clear BK390
                clear HB
                have HO_389000 := n0_
                have BK386 := n1_
                have BK387 := n2_
                have BK388 := n3_
                have BK390 := n4_
                have HB := n5_
                clear n0_ n1_ n2_ n3_ n4_ n5_
                refine start_ (n := 8) (S := fun w' => w'.cell? ⟨gb388, 0, none⟩ = some (u389000) ∧ w'.cell? ⟨gb388, 1, none⟩ = some (.int .u64 0) ∧ w'.cell? ⟨gb388, 2, none⟩ = some (.int .u64 0) ∧ w'.cell? ⟨gb388, 3, none⟩ = some (.int .i64 x389003_1) ∧ w'.cell? ⟨gb388, 4, none⟩ = some (.int .i64 x389004_1) ∧ w'.cell? ⟨gb390, 0, none⟩ = some (.int .u64 ((rd_T53 l1 x12_1).f0)) ∧ w'.cell? ⟨gb390, 1, none⟩ = some (.int .u64 ((rd_T53 l1 x12_1).f1))) (ds := [7]) #[false, false, false, false, false, false, false, false] (by kernel_rfl) rfl rfl ⟨(blk_cell BK388.out 0).trans rfl, (blk_cell BK388.out 1).trans rfl, (blk_cell BK388.out 2).trans rfl, (blk_cell BK388.out 3).trans rfl, (blk_cell BK388.out 4).trans rfl, (blk_cell BK390.out 0).trans rfl, (blk_cell BK390.out 1).trans rfl⟩ (fun hHeld => ?_); refine with_tabW spec_proofOf.tab6 spec_proofOf.bits6 (fun HT_ HW_ => ?_)
                generalize w20.drew = w21 at HO_389000 BK386 BK387 BK388 BK390 HB hHeld ⊢
                refine pure_ (i := 0) (N := some 21) (v := ?_) (a' := ?_) #[true, false, false, false, false, false, false, false] rfl rfl (any_of HT_.out (by kernel_rfl)) (fun _ _ _ h => h) (Or.inl ⟨by rfl, ?_⟩) ?_ ?_
                rotate_left
                · intro w'
                  go_simp
                  with_reducible rfl
                rotate_left
                · simp only [Act.put, List.setIfInBounds_toArray, List.set_cons_zero, List.set_cons_succ, i64_w, i32_w]
                  rfl
                refine take_ (i := 1) (N := some 22) (v := ?_) (a' := ?_) #[true, true, false, false, false, false, false, false] rfl rfl (take_ofW HT_.out HW_.out (by kernel_rfl)) (fun _ _ _ h => h) (Or.inl ⟨by rfl, ?_⟩) hHeld ?_ ?_
                rotate_left
                · rintro w' ⟨s0, s1, s2, s3, s4, s5, s6⟩
                  go_simp
                  with_reducible rfl
                rotate_left
                · simp only [Act.put, List.setIfInBounds_toArray, List.set_cons_zero, List.set_cons_succ, i64_w, i32_w]
                  rfl
                refine take_ (i := 2) (N := some 23) (v := ?_) (a' := ?_) #[true, true, true, false, false, false, false, false] rfl rfl (take_ofW HT_.out HW_.out (by kernel_rfl)) (fun _ _ _ h => h) (Or.inl ⟨by rfl, ?_⟩) hHeld ?_ ?_
                rotate_left
                · rintro w' ⟨s0, s1, s2, s3, s4, s5, s6⟩
                  go_simp
                  with_reducible rfl
                rotate_left
                · simp only [Act.put, List.setIfInBounds_toArray, List.set_cons_zero, List.set_cons_succ, i64_w, i32_w]
                  rfl
                refine one_ (i := 3) (N := some 24) #[true, true, true, true, false, false, false, false] rfl rfl (one_of HT_.out (by kernel_rfl)) (by decide) (fun K hK => ?_)
                refine goes_ Tryd.func67 (by kernel_rfl) rfl #[.agg #[.int .u64 ((rd_T53 l1 x12_1).f0), .int .u64 ((rd_T53 l1 x12_1).f1)]] (by rfl) rfl rfl (by (try simp only [List.map_toArray, List.map_cons, List.map_nil]); first | done | rfl | (simp only [List.length_drop, List.length_take]; rfl)) ?_
                with_reducible refine (spec_NodeOf.calls k1 ((rd_T53 l1 x12_1).f0) ((rd_T53 l1 x12_1).f1) t391 t392 _ A10.out).mono ?_
                rintro e w22 ⟨rfl, hb⟩
                refine ⟨_, rfl, ?_⟩
                have n0_ := Aside0.mk (Kd.R_below (by (with_reducible repeat (first | apply Kd.R_alloc | apply Kd.R_drewN | apply Kd.R_drew)); exact HO_389000.out) hb)
                have n1_ := Aside0.mk (blk_below (g := gb386) (o := .cells #[.int .u64 x387000_1, .int .u64 x387001_1] 53 (0, 0)) (by (with_reducible repeat (first | refine blk_drewN ?_ _ | refine blk_drew ?_ | refine blk_alloc ?_ _)); exact BK386.out) hb)
                have n2_ := Aside0.mk (blk_below (g := gb387) (o := .cells #[.slice none 0 0, .int .u64 0, .int .u64 0, .int .i64 0, .int .i64 0] 61 (0, 0)) (by (with_reducible repeat (first | refine blk_drewN ?_ _ | refine blk_drew ?_ | refine blk_alloc ?_ _)); exact BK387.out) hb)
                have n3_ := Aside0.mk (blk_below (g := gb388) (o := .cells #[u389000, .int .u64 0, .int .u64 0, .int .i64 x389003_1, .int .i64 x389004_1] 61 (0, 0)) (by (with_reducible repeat (first | refine blk_drewN ?_ _ | refine blk_drew ?_ | refine blk_alloc ?_ _)); exact BK388.out) hb)
                have n4_ := Aside0.mk (blk_below (g := gb390) (o := .cells #[.int .u64 ((rd_T53 l1 x12_1).f0), .int .u64 ((rd_T53 l1 x12_1).f1)] 53 (0, 0)) (by (with_reducible repeat (first | refine blk_drewN ?_ _ | refine blk_drew ?_ | refine blk_alloc ?_ _)); exact BK390.out) hb)
                have n5_ := Aside0.mk (below_step (by repeat (first | (with_reducible first | exact HB.out | apply below_alloc | apply pw_below_drewN | apply below_drew1 | refine below_set ?_ GE386.out | refine below_set ?_ GE387.out | refine below_set ?_ GE388.out | refine below_set ?_ GE390.out) | exact HB.out)) hb)
                clear HO_389000
                clear BK386
                clear BK387
                clear BK388
                clear BK390
                clear HB
                have HO_389000 := n0_
                have BK386 := n1_
                have BK387 := n2_
                have BK388 := n3_
                have BK390 := n4_
                have HB := n5_
                clear n0_ n1_ n2_ n3_ n4_ n5_
                (try clear hb)
                (try clear hb2)
                (try clear hk)
                (try clear hi)
                refine hK.out _ _ ⟨(blk_cell BK388.out 0).trans rfl, (blk_cell BK388.out 1).trans rfl, (blk_cell BK388.out 2).trans rfl, (blk_cell BK388.out 3).trans rfl, (blk_cell BK388.out 4).trans rfl, (blk_cell BK390.out 0).trans rfl, (blk_cell BK390.out 1).trans rfl⟩ (fun hHeld => ?_)
                clear hK K
                refine norm_ (a' := ?_) ?_ ?_
                rotate_left
                · show Act.put _ (some 24) _ = _
                  simp only [Act.put, List.setIfInBounds_toArray, List.set_cons_zero, List.set_cons_succ, i64_w, i32_w]
                  rfl
                refine one_ (i := 4) (N := some 25) #[true, true, true, true, true, false, false, false] rfl rfl (one_of HT_.out (by kernel_rfl)) (by decide) (fun K hK => ?_)
                refine value_ (w1 := ?_) (v := ?_) (by rfl) rfl ?_ ?_
                rotate_left 2
                · go_simp
                  constructor
                  · rfl
                  · rfl
                refine hK.out _ _ ⟨(blk_cell (blk_alloc BK388.out _) 0).trans rfl, (blk_cell (blk_alloc BK388.out _) 1).trans rfl, (blk_cell (blk_alloc BK388.out _) 2).trans rfl, (blk_cell (blk_alloc BK388.out _) 3).trans rfl, (blk_cell (blk_alloc BK388.out _) 4).trans rfl, (blk_cell (blk_alloc BK390.out _) 0).trans rfl, (blk_cell (blk_alloc BK390.out _) 1).trans rfl⟩ (fun hHeld => ?_)
                clear hK K
                refine norm_ (a' := ?_) ?_ ?_
                rotate_left
                · show Act.put _ (some 25) _ = _
                  simp only [Act.put, List.setIfInBounds_toArray, List.set_cons_zero, List.set_cons_succ, i64_w, i32_w]
                  rfl
                refine one_ (i := 5) (N := some 26) #[true, true, true, true, true, true, false, false] rfl rfl (one_of HT_.out (by kernel_rfl)) (by decide) (fun K hK => ?_)
                refine Kd.R_append_step k49 (w0 := w) w.heap.size (by rfl) (.tmp 22) (.tmp 25) 59 49 (.agg #[(.int .u64 0), (.int .u64 0)]) 16 rfl Tryd.underlying59 info49 rfl (by decide) (by omega) u389000 x389000_1 (⟨t391, t392⟩ : S49) [.int .u64 t391, .int .u64 t392] (fun _ => True) (fun _ => False) rfl rfl ?aP (fun _ hk => hk.elim) ?aF ?aO ?aB ?aS ?aL ?_
                (case aP => exact k49_mkM _ _ _ (⟨t391, t392⟩ : S49))
                (case aB => exact (by repeat (first | (with_reducible first | exact HB.out | apply below_alloc | apply pw_below_drewN | apply below_drew1 | refine below_set ?_ GE386.out | refine below_set ?_ GE387.out | refine below_set ?_ GE388.out | refine below_set ?_ GE390.out) | exact HB.out)))
                (case aF => exact (fun _ _ => trivial))
                (case aO => exact (by (with_reducible repeat (first | apply Kd.R_alloc | apply Kd.R_drewN | apply Kd.R_drew)); exact HO_389000.out))
                (case aS => exact (below_size (by repeat (first | (with_reducible first | exact HB.out | apply below_alloc | apply pw_below_drewN | apply below_drew1 | refine below_set ?_ GE386.out | refine below_set ?_ GE387.out | refine below_set ?_ GE388.out | refine below_set ?_ GE390.out) | exact HB.out))))
                (case aL => have := LMc11.out; omega)
                intro v394 w23 ho hb hg hat
                rw [← Ny393.out] at ho
                have n0_ := Aside0.mk (blk_grown (g := gb386) (o := .cells #[.int .u64 x387000_1, .int .u64 x387001_1] 53 (0, 0)) (by (with_reducible repeat (first | refine blk_drewN ?_ _ | refine blk_drew ?_ | refine blk_alloc ?_ _)); exact BK386.out) hg (Kd.R_ne HO_389000.out BK386.out (by decide)))
                have n1_ := Aside0.mk (blk_grown (g := gb387) (o := .cells #[.slice none 0 0, .int .u64 0, .int .u64 0, .int .i64 0, .int .i64 0] 61 (0, 0)) (by (with_reducible repeat (first | refine blk_drewN ?_ _ | refine blk_drew ?_ | refine blk_alloc ?_ _)); exact BK387.out) hg (Kd.R_ne HO_389000.out BK387.out (by decide)))
                have n2_ := Aside0.mk (blk_grown (g := gb388) (o := .cells #[u389000, .int .u64 0, .int .u64 0, .int .i64 x389003_1, .int .i64 x389004_1] 61 (0, 0)) (by (with_reducible repeat (first | refine blk_drewN ?_ _ | refine blk_drew ?_ | refine blk_alloc ?_ _)); exact BK388.out) hg (Kd.R_ne HO_389000.out BK388.out (by decide)))
                have n3_ := Aside0.mk (blk_grown (g := gb390) (o := .cells #[.int .u64 ((rd_T53 l1 x12_1).f0), .int .u64 ((rd_T53 l1 x12_1).f1)] 53 (0, 0)) (by (with_reducible repeat (first | refine blk_drewN ?_ _ | refine blk_drew ?_ | refine blk_alloc ?_ _)); exact BK390.out) hg (Kd.R_ne HO_389000.out BK390.out (by decide)))
                have n4_ := Aside0.mk (hb)
                have n5_ := Aside0.mk (ho)
                clear BK386
                clear BK387
                clear BK388
                clear BK390
                clear HB
                clear HO_389000
                have BK386 := n0_
                have BK387 := n1_
                have BK388 := n2_
                have BK390 := n3_
                have HB := n4_
                have HO395 := n5_
                clear n0_ n1_ n2_ n3_ n4_ n5_
                clear ho hb hg hat
                obtain ⟨Ao24, co24, eo24⟩ := Kd.R_slice HO395.out
                (first | subst eo24 | (injection eo24 with f1_ f2_ f3_; have f4_ := f1_.symm; have f5_ := f3_.symm; clear f1_ f2_ f3_; subst f4_; subst f5_))
                refine hK.out _ _ ⟨(blk_cell BK388.out 0).trans rfl, (blk_cell BK388.out 1).trans rfl, (blk_cell BK388.out 2).trans rfl, (blk_cell BK388.out 3).trans rfl, (blk_cell BK388.out 4).trans rfl, (blk_cell BK390.out 0).trans rfl, (blk_cell BK390.out 1).trans rfl⟩ (fun hHeld => ?_)
                clear hK K
                refine norm_ (a' := ?_) ?_ ?_
                rotate_left
                · show Act.put _ (some 26) _ = _
                  simp only [Act.put, List.setIfInBounds_toArray, List.set_cons_zero, List.set_cons_succ, i64_w, i32_w]
                  rfl
                refine pure_ (i := 6) (N := some 27) (v := ?_) (a' := ?_) #[true, true, true, true, true, true, true, false] rfl rfl (any_of HT_.out (by kernel_rfl)) (fun _ _ _ h => h) (Or.inl ⟨by rfl, ?_⟩) ?_ ?_
                rotate_left
                · intro w'
                  go_simp
                  with_reducible rfl
                rotate_left
                · simp only [Act.put, List.setIfInBounds_toArray, List.set_cons_zero, List.set_cons_succ, i64_w, i32_w]
                  rfl
                refine last_ (i := 7) (N := none) #[true, true, true, true, true, true, true, true] rfl rfl (one_of HT_.out (by kernel_rfl)) (by decide) (fun K hK => ?_)
                have hs25 : w23.cell? ⟨gb388, 0, none⟩ = some (u389000) := (blk_cell BK388.out 0).trans rfl
                have hfs25 := blk_frozen BK388.out 0
                have hns25_0 := NB386_388.out
                have hns25_1 := NB387_388.out
                have hns25_3 := NB390_388.out
                have hms25_0 := NB388_386.out
                have hms25_1 := NB388_387.out
                have hms25_3 := NB388_390.out
                refine skip_ (w1 := ?_) (by rfl) rfl ?_ ?_
                rotate_left
                · go_simp
                  rfl
                refine hK.out _ _ ?_
                clear hK K
                refine done_ (done_of HT_.out (by kernel_rfl)) ?_
                have hcz26_0 : w23.cell? ⟨gb390, 0, none⟩ = some (.int .u64 ((rd_T53 l1 x12_1).f0)) := (blk_cell BK390.out 0).trans rfl
                have hcz26_1 : w23.cell? ⟨gb390, 1, none⟩ = some (.int .u64 ((rd_T53 l1 x12_1).f1)) := (blk_cell BK390.out 1).trans rfl
                have hfz26_0 := blk_frozen BK390.out 0
                have hfz26_1 := blk_frozen BK390.out 1
                have hcz27_0 : w23.cell? ⟨gb386, 0, none⟩ = some (.int .u64 x387000_1) := (blk_cell BK386.out 0).trans rfl
                have hcz27_1 : w23.cell? ⟨gb386, 1, none⟩ = some (.int .u64 x387001_1) := (blk_cell BK386.out 1).trans rfl
                have hfz27_0 := blk_frozen BK386.out 0
                have hfz27_1 := blk_frozen BK386.out 1
                try go_wp2
                go_roundg k1
                case measure => have := HK1.out; omega
                case rel => exact ⟨(wrap64 (x12_1 + 1)), ((rd_T53 l1 x12_1).f0), (x387001_1), (y393), (x389003_1), (x389004_1), (.slice Ao24 y393.length co24), (by first | rfl | (simp; done) | (simp [*]; done)), H', ⟨by have := HK1.out; omega⟩, ⟨by (with_reducible repeat (first | apply Kd.R_alloc | apply Kd.R_drewN | apply Kd.R_drew)); exact Kd.R_mono (Kd.R_far (p := ⟨gb386, 0, none⟩) (Kd.R_far (p := ⟨gb388, 0, none⟩) (Kd.R_types (Kd.R_types HO395.out BK388.out (by decide)) BK386.out (by decide)) (fun _ hk => hk.1.2) (.slice Ao24 y393.length co24)) (fun _ hk => hk.2) (.int .u64 ((rd_T53 l1 x12_1).f0))) (fun _ hk => trivial)⟩, ⟨by (with_reducible repeat (first | refine blk_drewN ?_ _ | refine blk_drew ?_ | refine blk_alloc ?_ _)); refine blk_put (cs := #[.int .u64 x387000_1, .int .u64 x387001_1]) ?_ 0 _ rfl; (with_reducible repeat (first | refine blk_drewN ?_ _ | refine blk_drew ?_ | refine blk_alloc ?_ _)); refine blk_far ?_ NB386_388.out _; (with_reducible repeat (first | refine blk_drewN ?_ _ | refine blk_drew ?_ | refine blk_alloc ?_ _)); exact BK386.out⟩, ⟨by (with_reducible repeat (first | refine blk_drewN ?_ _ | refine blk_drew ?_ | refine blk_alloc ?_ _)); refine blk_far ?_ NB387_386.out _; (with_reducible repeat (first | refine blk_drewN ?_ _ | refine blk_drew ?_ | refine blk_alloc ?_ _)); refine blk_far ?_ NB387_388.out _; (with_reducible repeat (first | refine blk_drewN ?_ _ | refine blk_drew ?_ | refine blk_alloc ?_ _)); exact BK387.out⟩, ⟨by (with_reducible repeat (first | refine blk_drewN ?_ _ | refine blk_drew ?_ | refine blk_alloc ?_ _)); refine blk_far ?_ NB388_386.out _; (with_reducible repeat (first | refine blk_drewN ?_ _ | refine blk_drew ?_ | refine blk_alloc ?_ _)); refine blk_put (cs := #[u389000, .int .u64 0, .int .u64 0, .int .i64 x389003_1, .int .i64 x389004_1]) ?_ 0 _ rfl; (with_reducible repeat (first | refine blk_drewN ?_ _ | refine blk_drew ?_ | refine blk_alloc ?_ _)); exact BK388.out⟩, ⟨by repeat (first | (with_reducible first | exact HB.out | apply below_alloc | apply pw_below_drewN | apply below_drew1 | refine below_set ?_ GE386.out | refine below_set ?_ GE387.out | refine below_set ?_ GE388.out | refine below_set ?_ GE390.out) | exact HB.out)⟩⟩
              · rw [if_neg c11] at H
                exact absurd H (by simp)
            · rw [if_neg c9] at H
              have c9b0 : (((rd_T53 l1 x12_1).f1) == x387000_1) = false := beq_eq_false_iff_ne.mpr c9
              have c9b1 : (((rd_T53 l1 x12_1).f1) != x387000_1) = true := bne_iff_ne.mpr c9
              by_cases c28 : (IntKind.u64.wrap (((rd_T53 l1 x12_1).f1) - ((rd_T53 l1 x12_1).f0))) = (IntKind.u64.wrap (x387001_1 - x387000_1))
              · rw [if_pos c28] at H
                have c28b0 : ((IntKind.u64.wrap (((rd_T53 l1 x12_1).f1) - ((rd_T53 l1 x12_1).f0))) == (IntKind.u64.wrap (x387001_1 - x387000_1))) = true := beq_iff_eq.mpr c28
                have c28b1 : ((IntKind.u64.wrap (((rd_T53 l1 x12_1).f1) - ((rd_T53 l1 x12_1).f0))) != (IntKind.u64.wrap (x387001_1 - x387000_1))) = false := bne_eq_false_iff_eq.mpr c28
                clear c28
                replace H := Option.bind_eq_some_iff.mp H
                obtain ⟨⟨t396, t397⟩, A290, H⟩ := H
                replace H : (if x389000_1.length < 8796093022208 then (spec_proofOf.l0 k1 l1 (l1.length : Int) (wrap64 (x12_1 + 1)) x387000_1 ((rd_T53 l1 x12_1).f1) (x389000_1 ++ [(⟨t396, t397⟩ : S49)]) 0 0 x389003_1 x389004_1) else (none)) = some (r1, r2, r3, r4, r5) := H
                have A29 := Aside0.mk A290
                clear A290
                by_cases c30 : x389000_1.length < 8796093022208
                · rw [if_pos c30] at H
                  have LMc30 := Aside0.mk c30
                  clear c30
                  obtain ⟨y398, hy398⟩ : ∃ y_ : List (S49), y_ = (x389000_1 ++ [(⟨t396, t397⟩ : S49)]) := ⟨_, rfl⟩
                  replace H : (spec_proofOf.l0 k1 l1 (l1.length : Int) (wrap64 (x12_1 + 1)) x387000_1 ((rd_T53 l1 x12_1).f1) y398 0 0 x389003_1 x389004_1) = some (r1, r2, r3, r4, r5) := by first | (rw [hy398]; with_reducible exact H) | (have H2_ := (Option.bind_some _ _).symm.trans H; rw [hy398]; with_reducible exact H2_) | (have H2_ := (Option.bind_some _ _).symm.trans H; with_reducible exact H2_) | with_reducible exact H | (rw [hy398]; exact H) | exact H
                  have Ny398 := Aside0.mk hy398
                  clear hy398
                  have H' := Aside0.mk H
                  clear H
                  have p389 : 0 ≤ (x12_1 : Int) := of_decide_eq_true (by first | (with_reducible assumption) | assumption)
                  have q389 : x12_1 < (l1.length : Int) := of_decide_eq_true (by first | (with_reducible assumption) | assumption)
                  obtain ⟨ad389, e389, hx389_0, hx389_1⟩ := at_T53 HR1.out x12_1 p389 q389
                  cases e389
                  replace hx389_0 := (HB.out.cell (World.block_lt_of_cell? w _ hx389_0)).trans hx389_0
                  replace hx389_1 := (HB.out.cell (World.block_lt_of_cell? w _ hx389_1)).trans hx389_1
                  replace p389 := eq_true p389
                  replace q389 := eq_true q389
                  try go_wp2_with (first | ((with_reducible refine gate_dst (N := 7) rfl ?_); refine box_event ?hg (N := 7) ?hd (cs := #[.int .u64 0, .int .u64 0]) (t := 53) ?hr ?_; (case hd => rfl); (case hg => rfl); (case hr => first | (go_simp; done) | (go_simp; rfl)); intro gb390 hg w31 hbox hb; have n0_ := Aside0.mk (Kd.R_below (by (with_reducible repeat (first | apply Kd.R_alloc | apply Kd.R_drewN | apply Kd.R_drew)); exact HO_389000.out) hb); have n1_ := Aside0.mk (blk_below (g := gb386) (o := .cells #[.int .u64 x387000_1, .int .u64 x387001_1] 53 (0, 0)) (by (with_reducible repeat (first | refine blk_drewN ?_ _ | refine blk_drew ?_ | refine blk_alloc ?_ _)); exact BK386.out) hb); have n2_ := Aside0.mk (blk_below (g := gb387) (o := .cells #[.slice none 0 0, .int .u64 0, .int .u64 0, .int .i64 0, .int .i64 0] 61 (0, 0)) (by (with_reducible repeat (first | refine blk_drewN ?_ _ | refine blk_drew ?_ | refine blk_alloc ?_ _)); exact BK387.out) hb); have n3_ := Aside0.mk (blk_below (g := gb388) (o := .cells #[u389000, .int .u64 0, .int .u64 0, .int .i64 x389003_1, .int .i64 x389004_1] 61 (0, 0)) (by (with_reducible repeat (first | refine blk_drewN ?_ _ | refine blk_drew ?_ | refine blk_alloc ?_ _)); exact BK388.out) hb); have n4_ := Aside0.mk (below_step (by repeat (first | (with_reducible first | exact HB.out | apply below_alloc | apply pw_below_drewN | apply below_drew1 | refine below_set ?_ GE386.out | refine below_set ?_ GE387.out | refine below_set ?_ GE388.out) | exact HB.out)) hb); have n5_ := Aside0.mk (hbox); have n6_ := Aside0.mk ((by rw [hg]; exact (below_size (by repeat (first | (with_reducible first | exact HB.out | apply below_alloc | apply pw_below_drewN | apply below_drew1 | refine below_set ?_ GE386.out | refine below_set ?_ GE387.out | refine below_set ?_ GE388.out) | exact HB.out))) : w.heap.size ≤ gb390)); have n7_ := Aside0.mk ((by rw [hg]; exact (below_size (by repeat (first | (with_reducible first | exact HB.out | apply below_alloc | apply pw_below_drewN | apply below_drew1 | refine below_set ?_ GE386.out | refine below_set ?_ GE387.out | refine below_set ?_ GE388.out) | exact HB.out))) : w.heap.size ≤ gb390)); have n8_ := Aside0.mk ((by rw [hg]; exact Nat.ne_of_lt (blk_lt (g := gb386) (o := .cells #[.int .u64 x387000_1, .int .u64 x387001_1] 53 (0, 0)) (by (with_reducible repeat (first | refine blk_drewN ?_ _ | refine blk_drew ?_ | refine blk_alloc ?_ _)); exact BK386.out)) : gb386 ≠ gb390)); have n9_ := Aside0.mk ((by rw [hg]; exact Nat.ne_of_gt (blk_lt (g := gb386) (o := .cells #[.int .u64 x387000_1, .int .u64 x387001_1] 53 (0, 0)) (by (with_reducible repeat (first | refine blk_drewN ?_ _ | refine blk_drew ?_ | refine blk_alloc ?_ _)); exact BK386.out)) : gb390 ≠ gb386)); have n10_ := Aside0.mk ((by rw [hg]; exact Nat.ne_of_lt (blk_lt (g := gb387) (o := .cells #[.slice none 0 0, .int .u64 0, .int .u64 0, .int .i64 0, .int .i64 0] 61 (0, 0)) (by (with_reducible repeat (first | refine blk_drewN ?_ _ | refine blk_drew ?_ | refine blk_alloc ?_ _)); exact BK387.out)) : gb387 ≠ gb390)); have n11_ := Aside0.mk ((by rw [hg]; exact Nat.ne_of_gt (blk_lt (g := gb387) (o := .cells #[.slice none 0 0, .int .u64 0, .int .u64 0, .int .i64 0, .int .i64 0] 61 (0, 0)) (by (with_reducible repeat (first | refine blk_drewN ?_ _ | refine blk_drew ?_ | refine blk_alloc ?_ _)); exact BK387.out)) : gb390 ≠ gb387)); have n12_ := Aside0.mk ((by rw [hg]; exact Nat.ne_of_lt (blk_lt (g := gb388) (o := .cells #[u389000, .int .u64 0, .int .u64 0, .int .i64 x389003_1, .int .i64 x389004_1] 61 (0, 0)) (by (with_reducible repeat (first | refine blk_drewN ?_ _ | refine blk_drew ?_ | refine blk_alloc ?_ _)); exact BK388.out)) : gb388 ≠ gb390)); have n13_ := Aside0.mk ((by rw [hg]; exact Nat.ne_of_gt (blk_lt (g := gb388) (o := .cells #[u389000, .int .u64 0, .int .u64 0, .int .i64 x389003_1, .int .i64 x389004_1] 61 (0, 0)) (by (with_reducible repeat (first | refine blk_drewN ?_ _ | refine blk_drew ?_ | refine blk_alloc ?_ _)); exact BK388.out)) : gb390 ≠ gb388)); clear HO_389000; clear BK386; clear BK387; clear BK388; clear HB; have HO_389000 := n0_; have BK386 := n1_; have BK387 := n2_; have BK388 := n3_; have HB := n4_; have BK390 := n5_; have GW390 := n6_; have GE390 := n7_; have NB386_390 := n8_; have NB390_386 := n9_; have NB387_390 := n10_; have NB390_387 := n11_; have NB388_390 := n12_; have NB390_388 := n13_; clear n0_ n1_ n2_ n3_ n4_ n5_ n6_ n7_ n8_ n9_ n10_ n11_ n12_ n13_; clear hb hbox hg; have hnb32 := NB390_386.out; have hnc32 := NB386_390.out; have hnb33 := NB390_387.out; have hnc33 := NB387_390.out; have hnb34 := NB390_388.out; have hnc34 := NB388_390.out; have hcz35_0 : w31.cell? ⟨gb390, 0, none⟩ = some (.int .u64 0) := (blk_cell BK390.out 0).trans rfl; have hcz35_1 : w31.cell? ⟨gb390, 1, none⟩ = some (.int .u64 0) := (blk_cell BK390.out 1).trans rfl; have hfz35_0 := blk_frozen BK390.out 0; have hfz35_1 := blk_frozen BK390.out 1; have hnb36 := NB386_387.out; have hnc36 := NB387_386.out; have hnb37 := NB386_388.out; have hnc37 := NB388_386.out; have hcz38_0 : w31.cell? ⟨gb386, 0, none⟩ = some (.int .u64 x387000_1) := (blk_cell BK386.out 0).trans rfl; have hcz38_1 : w31.cell? ⟨gb386, 1, none⟩ = some (.int .u64 x387001_1) := (blk_cell BK386.out 1).trans rfl; have hfz38_0 := blk_frozen BK386.out 0; have hfz38_1 := blk_frozen BK386.out 1))
                  have n0_ : Aside0 (Kd.R k49 49 ((w31.setCell ⟨gb390, 0, none⟩ (.int .u64 ((rd_T53 l1 x12_1).f0))).setCell ⟨gb390, 1, none⟩ (.int .u64 ((rd_T53 l1 x12_1).f1))) w.heap.size (fun _ => True) u389000 x389000_1) := ⟨by (with_reducible repeat (first | apply Kd.R_alloc | apply Kd.R_drewN | apply Kd.R_drew)); exact Kd.R_mono (Kd.R_far (p := ⟨gb390, 1, none⟩) (Kd.R_far (p := ⟨gb390, 0, none⟩) (Kd.R_types HO_389000.out BK390.out (by decide)) (fun _ hk => hk.2) (.int .u64 ((rd_T53 l1 x12_1).f0))) (fun _ hk => hk.2) (.int .u64 ((rd_T53 l1 x12_1).f1))) (fun _ hk => trivial)⟩
                  have n1_ : Aside0 (((w31.setCell ⟨gb390, 0, none⟩ (.int .u64 ((rd_T53 l1 x12_1).f0))).setCell ⟨gb390, 1, none⟩ (.int .u64 ((rd_T53 l1 x12_1).f1))).heap[gb386]? = some (.cells #[.int .u64 x387000_1, .int .u64 x387001_1] 53 (0, 0))) := ⟨by (with_reducible repeat (first | refine blk_drewN ?_ _ | refine blk_drew ?_ | refine blk_alloc ?_ _)); refine blk_far ?_ NB386_390.out _; (with_reducible repeat (first | refine blk_drewN ?_ _ | refine blk_drew ?_ | refine blk_alloc ?_ _)); refine blk_far ?_ NB386_390.out _; (with_reducible repeat (first | refine blk_drewN ?_ _ | refine blk_drew ?_ | refine blk_alloc ?_ _)); exact BK386.out⟩
                  have n2_ : Aside0 (((w31.setCell ⟨gb390, 0, none⟩ (.int .u64 ((rd_T53 l1 x12_1).f0))).setCell ⟨gb390, 1, none⟩ (.int .u64 ((rd_T53 l1 x12_1).f1))).heap[gb387]? = some (.cells #[.slice none 0 0, .int .u64 0, .int .u64 0, .int .i64 0, .int .i64 0] 61 (0, 0))) := ⟨by (with_reducible repeat (first | refine blk_drewN ?_ _ | refine blk_drew ?_ | refine blk_alloc ?_ _)); refine blk_far ?_ NB387_390.out _; (with_reducible repeat (first | refine blk_drewN ?_ _ | refine blk_drew ?_ | refine blk_alloc ?_ _)); refine blk_far ?_ NB387_390.out _; (with_reducible repeat (first | refine blk_drewN ?_ _ | refine blk_drew ?_ | refine blk_alloc ?_ _)); exact BK387.out⟩
                  have n3_ : Aside0 (((w31.setCell ⟨gb390, 0, none⟩ (.int .u64 ((rd_T53 l1 x12_1).f0))).setCell ⟨gb390, 1, none⟩ (.int .u64 ((rd_T53 l1 x12_1).f1))).heap[gb388]? = some (.cells #[u389000, .int .u64 0, .int .u64 0, .int .i64 x389003_1, .int .i64 x389004_1] 61 (0, 0))) := ⟨by (with_reducible repeat (first | refine blk_drewN ?_ _ | refine blk_drew ?_ | refine blk_alloc ?_ _)); refine blk_far ?_ NB388_390.out _; (with_reducible repeat (first | refine blk_drewN ?_ _ | refine blk_drew ?_ | refine blk_alloc ?_ _)); refine blk_far ?_ NB388_390.out _; (with_reducible repeat (first | refine blk_drewN ?_ _ | refine blk_drew ?_ | refine blk_alloc ?_ _)); exact BK388.out⟩
                  have n4_ : Aside0 (((w31.setCell ⟨gb390, 0, none⟩ (.int .u64 ((rd_T53 l1 x12_1).f0))).setCell ⟨gb390, 1, none⟩ (.int .u64 ((rd_T53 l1 x12_1).f1))).heap[gb390]? = some (.cells #[.int .u64 ((rd_T53 l1 x12_1).f0), .int .u64 ((rd_T53 l1 x12_1).f1)] 53 (0, 0))) := ⟨by (with_reducible repeat (first | refine blk_drewN ?_ _ | refine blk_drew ?_ | refine blk_alloc ?_ _)); refine blk_put (cs := #[.int .u64 ((rd_T53 l1 x12_1).f0), .int .u64 0]) ?_ 1 _ rfl; (with_reducible repeat (first | refine blk_drewN ?_ _ | refine blk_drew ?_ | refine blk_alloc ?_ _)); refine blk_put (cs := #[.int .u64 0, .int .u64 0]) ?_ 0 _ rfl; (with_reducible repeat (first | refine blk_drewN ?_ _ | refine blk_drew ?_ | refine blk_alloc ?_ _)); exact BK390.out⟩
                  have n5_ : Aside0 (Below w.heap.size w ((w31.setCell ⟨gb390, 0, none⟩ (.int .u64 ((rd_T53 l1 x12_1).f0))).setCell ⟨gb390, 1, none⟩ (.int .u64 ((rd_T53 l1 x12_1).f1)))) := ⟨by repeat (first | (with_reducible first | exact HB.out | apply below_alloc | apply pw_below_drewN | apply below_drew1 | refine below_set ?_ GE386.out | refine below_set ?_ GE387.out | refine below_set ?_ GE388.out | refine below_set ?_ GE390.out) | exact HB.out)⟩
                  (try clear HO_389000)
                  (try clear BK386)
                  (try clear BK387)
                  (try clear BK388)
                  (try clear BK390)
                  (try clear HB)
                  generalize ((w31.setCell ⟨gb390, 0, none⟩ (.int .u64 ((rd_T53 l1 x12_1).f0))).setCell ⟨gb390, 1, none⟩ (.int .u64 ((rd_T53 l1 x12_1).f1))) = w39 at n0_ n1_ n2_ n3_ n4_ n5_ ⊢
                  have HO_389000 := n0_
                  have BK386 := n1_
                  have BK387 := n2_
                  have BK388 := n3_
                  have BK390 := n4_
                  have HB := n5_
                  clear n0_ n1_ n2_ n3_ n4_ n5_
                  (try (rw [drewN_self w39]; generalize hq_ : World.drewN w39 _ = w39; have n0_ : Aside0 (Kd.R k49 49 w39 w.heap.size (fun _ => True) u389000 x389000_1) := ⟨by rw [← hq_]; exact (by (with_reducible repeat (first | apply Kd.R_alloc | apply Kd.R_drewN | apply Kd.R_drew)); exact HO_389000.out)⟩; have n1_ : Aside0 (w39.heap[gb386]? = some (.cells #[.int .u64 x387000_1, .int .u64 x387001_1] 53 (0, 0))) := ⟨by rw [← hq_]; exact (by (with_reducible repeat (first | refine blk_drewN ?_ _ | refine blk_drew ?_ | refine blk_alloc ?_ _)); exact BK386.out)⟩; have n2_ : Aside0 (w39.heap[gb387]? = some (.cells #[.slice none 0 0, .int .u64 0, .int .u64 0, .int .i64 0, .int .i64 0] 61 (0, 0))) := ⟨by rw [← hq_]; exact (by (with_reducible repeat (first | refine blk_drewN ?_ _ | refine blk_drew ?_ | refine blk_alloc ?_ _)); exact BK387.out)⟩; have n3_ : Aside0 (w39.heap[gb388]? = some (.cells #[u389000, .int .u64 0, .int .u64 0, .int .i64 x389003_1, .int .i64 x389004_1] 61 (0, 0))) := ⟨by rw [← hq_]; exact (by (with_reducible repeat (first | refine blk_drewN ?_ _ | refine blk_drew ?_ | refine blk_alloc ?_ _)); exact BK388.out)⟩; have n4_ : Aside0 (w39.heap[gb390]? = some (.cells #[.int .u64 ((rd_T53 l1 x12_1).f0), .int .u64 ((rd_T53 l1 x12_1).f1)] 53 (0, 0))) := ⟨by rw [← hq_]; exact (by (with_reducible repeat (first | refine blk_drewN ?_ _ | refine blk_drew ?_ | refine blk_alloc ?_ _)); exact BK390.out)⟩; have n5_ : Aside0 (Below w.heap.size w w39) := ⟨by rw [← hq_]; exact (by repeat (first | (with_reducible first | exact HB.out | apply below_alloc | apply pw_below_drewN | apply below_drew1 | refine below_set ?_ GE386.out | refine below_set ?_ GE387.out | refine below_set ?_ GE388.out | refine below_set ?_ GE390.out) | exact HB.out))⟩; clear HO_389000 BK386 BK387 BK388 BK390 HB hq_; have HO_389000 := n0_; have BK386 := n1_; have BK387 := n2_; have BK388 := n3_; have BK390 := n4_; have HB := n5_; clear n0_ n1_ n2_ n3_ n4_ n5_))
                  have n0_ := Aside0.mk (Kd.R_drew HO_389000.out)
                  have n1_ := Aside0.mk (blk_drew BK386.out)
                  have n2_ := Aside0.mk (blk_drew BK387.out)
                  have n3_ := Aside0.mk (blk_drew BK388.out)
                  have n4_ := Aside0.mk (blk_drew BK390.out)
                  have n5_ := Aside0.mk (below_drew1 HB.out)
                  clear HO_389000
                  clear BK386
                  clear BK387
                  clear BK388
                  clear BK390
                  clear HB
                  have HO_389000 := n0_
                  have BK386 := n1_
                  have BK387 := n2_
                  have BK388 := n3_
                  have BK390 := n4_
                  have HB := n5_
                  clear n0_ n1_ n2_ n3_ n4_ n5_
                  refine start_ (n := 8) (S := fun w' => w'.cell? ⟨gb388, 0, none⟩ = some (u389000) ∧ w'.cell? ⟨gb388, 1, none⟩ = some (.int .u64 0) ∧ w'.cell? ⟨gb388, 2, none⟩ = some (.int .u64 0) ∧ w'.cell? ⟨gb388, 3, none⟩ = some (.int .i64 x389003_1) ∧ w'.cell? ⟨gb388, 4, none⟩ = some (.int .i64 x389004_1) ∧ w'.cell? ⟨gb390, 0, none⟩ = some (.int .u64 ((rd_T53 l1 x12_1).f0)) ∧ w'.cell? ⟨gb390, 1, none⟩ = some (.int .u64 ((rd_T53 l1 x12_1).f1))) (ds := [7]) #[false, false, false, false, false, false, false, false] (by kernel_rfl) rfl rfl ⟨(blk_cell BK388.out 0).trans rfl, (blk_cell BK388.out 1).trans rfl, (blk_cell BK388.out 2).trans rfl, (blk_cell BK388.out 3).trans rfl, (blk_cell BK388.out 4).trans rfl, (blk_cell BK390.out 0).trans rfl, (blk_cell BK390.out 1).trans rfl⟩ (fun hHeld => ?_); refine with_tabW spec_proofOf.tab9 spec_proofOf.bits9 (fun HT_ HW_ => ?_)
                  generalize w39.drew = w40 at HO_389000 BK386 BK387 BK388 BK390 HB hHeld ⊢
                  refine pure_ (i := 0) (N := some 42) (v := ?_) (a' := ?_) #[true, false, false, false, false, false, false, false] rfl rfl (any_of HT_.out (by kernel_rfl)) (fun _ _ _ h => h) (Or.inl ⟨by rfl, ?_⟩) ?_ ?_
                  rotate_left
                  · intro w'
                    go_simp
                    with_reducible rfl
                  rotate_left
                  · simp only [Act.put, List.setIfInBounds_toArray, List.set_cons_zero, List.set_cons_succ, i64_w, i32_w]
                    rfl
                  refine take_ (i := 1) (N := some 43) (v := ?_) (a' := ?_) #[true, true, false, false, false, false, false, false] rfl rfl (take_ofW HT_.out HW_.out (by kernel_rfl)) (fun _ _ _ h => h) (Or.inl ⟨by rfl, ?_⟩) hHeld ?_ ?_
                  rotate_left
                  · rintro w' ⟨s0, s1, s2, s3, s4, s5, s6⟩
                    go_simp
                    with_reducible rfl
                  rotate_left
                  · simp only [Act.put, List.setIfInBounds_toArray, List.set_cons_zero, List.set_cons_succ, i64_w, i32_w]
                    rfl
                  refine take_ (i := 2) (N := some 44) (v := ?_) (a' := ?_) #[true, true, true, false, false, false, false, false] rfl rfl (take_ofW HT_.out HW_.out (by kernel_rfl)) (fun _ _ _ h => h) (Or.inl ⟨by rfl, ?_⟩) hHeld ?_ ?_
                  rotate_left
                  · rintro w' ⟨s0, s1, s2, s3, s4, s5, s6⟩
                    go_simp
                    with_reducible rfl
                  rotate_left
                  · simp only [Act.put, List.setIfInBounds_toArray, List.set_cons_zero, List.set_cons_succ, i64_w, i32_w]
                    rfl
                  refine one_ (i := 3) (N := some 45) #[true, true, true, true, false, false, false, false] rfl rfl (one_of HT_.out (by kernel_rfl)) (by decide) (fun K hK => ?_)
                  refine goes_ Tryd.func67 (by kernel_rfl) rfl #[.agg #[.int .u64 ((rd_T53 l1 x12_1).f0), .int .u64 ((rd_T53 l1 x12_1).f1)]] (by rfl) rfl rfl (by (try simp only [List.map_toArray, List.map_cons, List.map_nil]); first | done | rfl | (simp only [List.length_drop, List.length_take]; rfl)) ?_
                  with_reducible refine (spec_NodeOf.calls k1 ((rd_T53 l1 x12_1).f0) ((rd_T53 l1 x12_1).f1) t396 t397 _ A29.out).mono ?_
                  rintro e w41 ⟨rfl, hb⟩
                  refine ⟨_, rfl, ?_⟩
                  have n0_ := Aside0.mk (Kd.R_below (by (with_reducible repeat (first | apply Kd.R_alloc | apply Kd.R_drewN | apply Kd.R_drew)); exact HO_389000.out) hb)
                  have n1_ := Aside0.mk (blk_below (g := gb386) (o := .cells #[.int .u64 x387000_1, .int .u64 x387001_1] 53 (0, 0)) (by (with_reducible repeat (first | refine blk_drewN ?_ _ | refine blk_drew ?_ | refine blk_alloc ?_ _)); exact BK386.out) hb)
                  have n2_ := Aside0.mk (blk_below (g := gb387) (o := .cells #[.slice none 0 0, .int .u64 0, .int .u64 0, .int .i64 0, .int .i64 0] 61 (0, 0)) (by (with_reducible repeat (first | refine blk_drewN ?_ _ | refine blk_drew ?_ | refine blk_alloc ?_ _)); exact BK387.out) hb)
                  have n3_ := Aside0.mk (blk_below (g := gb388) (o := .cells #[u389000, .int .u64 0, .int .u64 0, .int .i64 x389003_1, .int .i64 x389004_1] 61 (0, 0)) (by (with_reducible repeat (first | refine blk_drewN ?_ _ | refine blk_drew ?_ | refine blk_alloc ?_ _)); exact BK388.out) hb)
                  have n4_ := Aside0.mk (blk_below (g := gb390) (o := .cells #[.int .u64 ((rd_T53 l1 x12_1).f0), .int .u64 ((rd_T53 l1 x12_1).f1)] 53 (0, 0)) (by (with_reducible repeat (first | refine blk_drewN ?_ _ | refine blk_drew ?_ | refine blk_alloc ?_ _)); exact BK390.out) hb)
                  have n5_ := Aside0.mk (below_step (by repeat (first | (with_reducible first | exact HB.out | apply below_alloc | apply pw_below_drewN | apply below_drew1 | refine below_set ?_ GE386.out | refine below_set ?_ GE387.out | refine below_set ?_ GE388.out | refine below_set ?_ GE390.out) | exact HB.out)) hb)
                  clear HO_389000
                  clear BK386
                  clear BK387
                  clear BK388
                  clear BK390
                  clear HB
                  have HO_389000 := n0_
                  have BK386 := n1_
                  have BK387 := n2_
                  have BK388 := n3_
                  have BK390 := n4_
                  have HB := n5_
                  clear n0_ n1_ n2_ n3_ n4_ n5_
                  (try clear hb)
                  (try clear hb2)
                  (try clear hk)
                  (try clear hi)
                  refine hK.out _ _ ⟨(blk_cell BK388.out 0).trans rfl, (blk_cell BK388.out 1).trans rfl, (blk_cell BK388.out 2).trans rfl, (blk_cell BK388.out 3).trans rfl, (blk_cell BK388.out 4).trans rfl, (blk_cell BK390.out 0).trans rfl, (blk_cell BK390.out 1).trans rfl⟩ (fun hHeld => ?_)
                  clear hK K
                  refine norm_ (a' := ?_) ?_ ?_
                  rotate_left
                  · show Act.put _ (some 45) _ = _
                    simp only [Act.put, List.setIfInBounds_toArray, List.set_cons_zero, List.set_cons_succ, i64_w, i32_w]
                    rfl
                  refine one_ (i := 4) (N := some 46) #[true, true, true, true, true, false, false, false] rfl rfl (one_of HT_.out (by kernel_rfl)) (by decide) (fun K hK => ?_)
                  refine value_ (w1 := ?_) (v := ?_) (by rfl) rfl ?_ ?_
                  rotate_left 2
                  · go_simp
                    constructor
                    · rfl
                    · rfl
                  refine hK.out _ _ ⟨(blk_cell (blk_alloc BK388.out _) 0).trans rfl, (blk_cell (blk_alloc BK388.out _) 1).trans rfl, (blk_cell (blk_alloc BK388.out _) 2).trans rfl, (blk_cell (blk_alloc BK388.out _) 3).trans rfl, (blk_cell (blk_alloc BK388.out _) 4).trans rfl, (blk_cell (blk_alloc BK390.out _) 0).trans rfl, (blk_cell (blk_alloc BK390.out _) 1).trans rfl⟩ (fun hHeld => ?_)
                  clear hK K
                  refine norm_ (a' := ?_) ?_ ?_
                  rotate_left
                  · show Act.put _ (some 46) _ = _
                    simp only [Act.put, List.setIfInBounds_toArray, List.set_cons_zero, List.set_cons_succ, i64_w, i32_w]
                    rfl
                  refine one_ (i := 5) (N := some 47) #[true, true, true, true, true, true, false, false] rfl rfl (one_of HT_.out (by kernel_rfl)) (by decide) (fun K hK => ?_)
                  refine Kd.R_append_step k49 (w0 := w) w.heap.size (by rfl) (.tmp 43) (.tmp 46) 59 49 (.agg #[(.int .u64 0), (.int .u64 0)]) 16 rfl Tryd.underlying59 info49 rfl (by decide) (by omega) u389000 x389000_1 (⟨t396, t397⟩ : S49) [.int .u64 t396, .int .u64 t397] (fun _ => True) (fun _ => False) rfl rfl ?aP (fun _ hk => hk.elim) ?aF ?aO ?aB ?aS ?aL ?_
                  (case aP => exact k49_mkM _ _ _ (⟨t396, t397⟩ : S49))
                  (case aB => exact (by repeat (first | (with_reducible first | exact HB.out | apply below_alloc | apply pw_below_drewN | apply below_drew1 | refine below_set ?_ GE386.out | refine below_set ?_ GE387.out | refine below_set ?_ GE388.out | refine below_set ?_ GE390.out) | exact HB.out)))
                  (case aF => exact (fun _ _ => trivial))
                  (case aO => exact (by (with_reducible repeat (first | apply Kd.R_alloc | apply Kd.R_drewN | apply Kd.R_drew)); exact HO_389000.out))
                  (case aS => exact (below_size (by repeat (first | (with_reducible first | exact HB.out | apply below_alloc | apply pw_below_drewN | apply below_drew1 | refine below_set ?_ GE386.out | refine below_set ?_ GE387.out | refine below_set ?_ GE388.out | refine below_set ?_ GE390.out) | exact HB.out))))
                  (case aL => have := LMc30.out; omega)
                  intro v399 w42 ho hb hg hat
                  rw [← Ny398.out] at ho
                  have n0_ := Aside0.mk (blk_grown (g := gb386) (o := .cells #[.int .u64 x387000_1, .int .u64 x387001_1] 53 (0, 0)) (by (with_reducible repeat (first | refine blk_drewN ?_ _ | refine blk_drew ?_ | refine blk_alloc ?_ _)); exact BK386.out) hg (Kd.R_ne HO_389000.out BK386.out (by decide)))
                  have n1_ := Aside0.mk (blk_grown (g := gb387) (o := .cells #[.slice none 0 0, .int .u64 0, .int .u64 0, .int .i64 0, .int .i64 0] 61 (0, 0)) (by (with_reducible repeat (first | refine blk_drewN ?_ _ | refine blk_drew ?_ | refine blk_alloc ?_ _)); exact BK387.out) hg (Kd.R_ne HO_389000.out BK387.out (by decide)))
                  have n2_ := Aside0.mk (blk_grown (g := gb388) (o := .cells #[u389000, .int .u64 0, .int .u64 0, .int .i64 x389003_1, .int .i64 x389004_1] 61 (0, 0)) (by (with_reducible repeat (first | refine blk_drewN ?_ _ | refine blk_drew ?_ | refine blk_alloc ?_ _)); exact BK388.out) hg (Kd.R_ne HO_389000.out BK388.out (by decide)))
                  have n3_ := Aside0.mk (blk_grown (g := gb390) (o := .cells #[.int .u64 ((rd_T53 l1 x12_1).f0), .int .u64 ((rd_T53 l1 x12_1).f1)] 53 (0, 0)) (by (with_reducible repeat (first | refine blk_drewN ?_ _ | refine blk_drew ?_ | refine blk_alloc ?_ _)); exact BK390.out) hg (Kd.R_ne HO_389000.out BK390.out (by decide)))
                  have n4_ := Aside0.mk (hb)
                  have n5_ := Aside0.mk (ho)
                  clear BK386
                  clear BK387
                  clear BK388
                  clear BK390
                  clear HB
                  clear HO_389000
                  have BK386 := n0_
                  have BK387 := n1_
                  have BK388 := n2_
                  have BK390 := n3_
                  have HB := n4_
                  have HO400 := n5_
                  clear n0_ n1_ n2_ n3_ n4_ n5_
                  clear ho hb hg hat
                  obtain ⟨Ao43, co43, eo43⟩ := Kd.R_slice HO400.out
                  (first | subst eo43 | (injection eo43 with f1_ f2_ f3_; have f4_ := f1_.symm; have f5_ := f3_.symm; clear f1_ f2_ f3_; subst f4_; subst f5_))
                  refine hK.out _ _ ⟨(blk_cell BK388.out 0).trans rfl, (blk_cell BK388.out 1).trans rfl, (blk_cell BK388.out 2).trans rfl, (blk_cell BK388.out 3).trans rfl, (blk_cell BK388.out 4).trans rfl, (blk_cell BK390.out 0).trans rfl, (blk_cell BK390.out 1).trans rfl⟩ (fun hHeld => ?_)
                  clear hK K
                  refine norm_ (a' := ?_) ?_ ?_
                  rotate_left
                  · show Act.put _ (some 47) _ = _
                    simp only [Act.put, List.setIfInBounds_toArray, List.set_cons_zero, List.set_cons_succ, i64_w, i32_w]
                    rfl
                  refine pure_ (i := 6) (N := some 48) (v := ?_) (a' := ?_) #[true, true, true, true, true, true, true, false] rfl rfl (any_of HT_.out (by kernel_rfl)) (fun _ _ _ h => h) (Or.inl ⟨by rfl, ?_⟩) ?_ ?_
                  rotate_left
                  · intro w'
                    go_simp
                    with_reducible rfl
                  rotate_left
                  · simp only [Act.put, List.setIfInBounds_toArray, List.set_cons_zero, List.set_cons_succ, i64_w, i32_w]
                    rfl
                  refine last_ (i := 7) (N := none) #[true, true, true, true, true, true, true, true] rfl rfl (one_of HT_.out (by kernel_rfl)) (by decide) (fun K hK => ?_)
                  have hs44 : w42.cell? ⟨gb388, 0, none⟩ = some (u389000) := (blk_cell BK388.out 0).trans rfl
                  have hfs44 := blk_frozen BK388.out 0
                  have hns44_0 := NB386_388.out
                  have hns44_1 := NB387_388.out
                  have hns44_3 := NB390_388.out
                  have hms44_0 := NB388_386.out
                  have hms44_1 := NB388_387.out
                  have hms44_3 := NB388_390.out
                  refine skip_ (w1 := ?_) (by rfl) rfl ?_ ?_
                  rotate_left
                  · go_simp
                    rfl
                  refine hK.out _ _ ?_
                  clear hK K
                  refine done_ (done_of HT_.out (by kernel_rfl)) ?_
                  have hcz45_0 : w42.cell? ⟨gb390, 0, none⟩ = some (.int .u64 ((rd_T53 l1 x12_1).f0)) := (blk_cell BK390.out 0).trans rfl
                  have hcz45_1 : w42.cell? ⟨gb390, 1, none⟩ = some (.int .u64 ((rd_T53 l1 x12_1).f1)) := (blk_cell BK390.out 1).trans rfl
                  have hfz45_0 := blk_frozen BK390.out 0
                  have hfz45_1 := blk_frozen BK390.out 1
                  have hcz46_0 : w42.cell? ⟨gb386, 0, none⟩ = some (.int .u64 x387000_1) := (blk_cell BK386.out 0).trans rfl
                  have hcz46_1 : w42.cell? ⟨gb386, 1, none⟩ = some (.int .u64 x387001_1) := (blk_cell BK386.out 1).trans rfl
                  have hfz46_0 := blk_frozen BK386.out 0
                  have hfz46_1 := blk_frozen BK386.out 1
                  try go_wp2
                  go_roundg k1
                  case measure => have := HK1.out; omega
                  case rel => exact ⟨(wrap64 (x12_1 + 1)), (x387000_1), ((rd_T53 l1 x12_1).f1), (y398), (x389003_1), (x389004_1), (.slice Ao43 y398.length co43), (by first | rfl | (simp; done) | (simp [*]; done)), H', ⟨by have := HK1.out; omega⟩, ⟨by (with_reducible repeat (first | apply Kd.R_alloc | apply Kd.R_drewN | apply Kd.R_drew)); exact Kd.R_mono (Kd.R_far (p := ⟨gb386, 1, none⟩) (Kd.R_far (p := ⟨gb388, 0, none⟩) (Kd.R_types (Kd.R_types HO400.out BK388.out (by decide)) BK386.out (by decide)) (fun _ hk => hk.1.2) (.slice Ao43 y398.length co43)) (fun _ hk => hk.2) (.int .u64 ((rd_T53 l1 x12_1).f1))) (fun _ hk => trivial)⟩, ⟨by (with_reducible repeat (first | refine blk_drewN ?_ _ | refine blk_drew ?_ | refine blk_alloc ?_ _)); refine blk_put (cs := #[.int .u64 x387000_1, .int .u64 x387001_1]) ?_ 1 _ rfl; (with_reducible repeat (first | refine blk_drewN ?_ _ | refine blk_drew ?_ | refine blk_alloc ?_ _)); refine blk_far ?_ NB386_388.out _; (with_reducible repeat (first | refine blk_drewN ?_ _ | refine blk_drew ?_ | refine blk_alloc ?_ _)); exact BK386.out⟩, ⟨by (with_reducible repeat (first | refine blk_drewN ?_ _ | refine blk_drew ?_ | refine blk_alloc ?_ _)); refine blk_far ?_ NB387_386.out _; (with_reducible repeat (first | refine blk_drewN ?_ _ | refine blk_drew ?_ | refine blk_alloc ?_ _)); refine blk_far ?_ NB387_388.out _; (with_reducible repeat (first | refine blk_drewN ?_ _ | refine blk_drew ?_ | refine blk_alloc ?_ _)); exact BK387.out⟩, ⟨by (with_reducible repeat (first | refine blk_drewN ?_ _ | refine blk_drew ?_ | refine blk_alloc ?_ _)); refine blk_far ?_ NB388_386.out _; (with_reducible repeat (first | refine blk_drewN ?_ _ | refine blk_drew ?_ | refine blk_alloc ?_ _)); refine blk_put (cs := #[u389000, .int .u64 0, .int .u64 0, .int .i64 x389003_1, .int .i64 x389004_1]) ?_ 0 _ rfl; (with_reducible repeat (first | refine blk_drewN ?_ _ | refine blk_drew ?_ | refine blk_alloc ?_ _)); exact BK388.out⟩, ⟨by repeat (first | (with_reducible first | exact HB.out | apply below_alloc | apply pw_below_drewN | apply below_drew1 | refine below_set ?_ GE386.out | refine below_set ?_ GE387.out | refine below_set ?_ GE388.out | refine below_set ?_ GE390.out) | exact HB.out)⟩⟩
                · rw [if_neg c30] at H
                  exact absurd H (by simp)
              · rw [if_neg c28] at H
                have c28b0 : ((IntKind.u64.wrap (((rd_T53 l1 x12_1).f1) - ((rd_T53 l1 x12_1).f0))) == (IntKind.u64.wrap (x387001_1 - x387000_1))) = false := beq_eq_false_iff_ne.mpr c28
                have c28b1 : ((IntKind.u64.wrap (((rd_T53 l1 x12_1).f1) - ((rd_T53 l1 x12_1).f0))) != (IntKind.u64.wrap (x387001_1 - x387000_1))) = true := bne_iff_ne.mpr c28
                replace H := Option.bind_eq_some_iff.mp H
                obtain ⟨t401, A470, H⟩ := H
                replace H : (spec_proofOf.l1 k1 t401 (wrap64 ((t401.length : Int) - 1)) l1 (l1.length : Int) x12_1 x387000_1 x387001_1 x389000_1 0 0 (x389000_1.length : Int) (wrap64 ((x389000_1.length : Int) + (t401.length : Int))) ((rd_T53 l1 x12_1).f0) ((rd_T53 l1 x12_1).f1)) = some (r1, r2, r3, r4, r5) := H
                have A47 := Aside0.mk A470
                clear A470
                have H' := Aside0.mk H
                clear H
                have p389 : 0 ≤ (x12_1 : Int) := of_decide_eq_true (by first | (with_reducible assumption) | assumption)
                have q389 : x12_1 < (l1.length : Int) := of_decide_eq_true (by first | (with_reducible assumption) | assumption)
                obtain ⟨ad389, e389, hx389_0, hx389_1⟩ := at_T53 HR1.out x12_1 p389 q389
                cases e389
                replace hx389_0 := (HB.out.cell (World.block_lt_of_cell? w _ hx389_0)).trans hx389_0
                replace hx389_1 := (HB.out.cell (World.block_lt_of_cell? w _ hx389_1)).trans hx389_1
                replace p389 := eq_true p389
                replace q389 := eq_true q389
                go_wp2_with (first | ((with_reducible refine gate_dst (N := 7) rfl ?_); refine box_event ?hg (N := 7) ?hd (cs := #[.int .u64 0, .int .u64 0]) (t := 53) ?hr ?_; (case hd => rfl); (case hg => rfl); (case hr => first | (go_simp; done) | (go_simp; rfl)); intro gb390 hg w48 hbox hb; have n0_ := Aside0.mk (Kd.R_below (by (with_reducible repeat (first | apply Kd.R_alloc | apply Kd.R_drewN | apply Kd.R_drew)); exact HO_389000.out) hb); have n1_ := Aside0.mk (blk_below (g := gb386) (o := .cells #[.int .u64 x387000_1, .int .u64 x387001_1] 53 (0, 0)) (by (with_reducible repeat (first | refine blk_drewN ?_ _ | refine blk_drew ?_ | refine blk_alloc ?_ _)); exact BK386.out) hb); have n2_ := Aside0.mk (blk_below (g := gb387) (o := .cells #[.slice none 0 0, .int .u64 0, .int .u64 0, .int .i64 0, .int .i64 0] 61 (0, 0)) (by (with_reducible repeat (first | refine blk_drewN ?_ _ | refine blk_drew ?_ | refine blk_alloc ?_ _)); exact BK387.out) hb); have n3_ := Aside0.mk (blk_below (g := gb388) (o := .cells #[u389000, .int .u64 0, .int .u64 0, .int .i64 x389003_1, .int .i64 x389004_1] 61 (0, 0)) (by (with_reducible repeat (first | refine blk_drewN ?_ _ | refine blk_drew ?_ | refine blk_alloc ?_ _)); exact BK388.out) hb); have n4_ := Aside0.mk (below_step (by repeat (first | (with_reducible first | exact HB.out | apply below_alloc | apply pw_below_drewN | apply below_drew1 | refine below_set ?_ GE386.out | refine below_set ?_ GE387.out | refine below_set ?_ GE388.out) | exact HB.out)) hb); have n5_ := Aside0.mk (hbox); have n6_ := Aside0.mk ((by rw [hg]; exact (below_size (by repeat (first | (with_reducible first | exact HB.out | apply below_alloc | apply pw_below_drewN | apply below_drew1 | refine below_set ?_ GE386.out | refine below_set ?_ GE387.out | refine below_set ?_ GE388.out) | exact HB.out))) : w.heap.size ≤ gb390)); have n7_ := Aside0.mk ((by rw [hg]; exact (below_size (by repeat (first | (with_reducible first | exact HB.out | apply below_alloc | apply pw_below_drewN | apply below_drew1 | refine below_set ?_ GE386.out | refine below_set ?_ GE387.out | refine below_set ?_ GE388.out) | exact HB.out))) : w.heap.size ≤ gb390)); have n8_ := Aside0.mk ((by rw [hg]; exact Nat.ne_of_lt (blk_lt (g := gb386) (o := .cells #[.int .u64 x387000_1, .int .u64 x387001_1] 53 (0, 0)) (by (with_reducible repeat (first | refine blk_drewN ?_ _ | refine blk_drew ?_ | refine blk_alloc ?_ _)); exact BK386.out)) : gb386 ≠ gb390)); have n9_ := Aside0.mk ((by rw [hg]; exact Nat.ne_of_gt (blk_lt (g := gb386) (o := .cells #[.int .u64 x387000_1, .int .u64 x387001_1] 53 (0, 0)) (by (with_reducible repeat (first | refine blk_drewN ?_ _ | refine blk_drew ?_ | refine blk_alloc ?_ _)); exact BK386.out)) : gb390 ≠ gb386)); have n10_ := Aside0.mk ((by rw [hg]; exact Nat.ne_of_lt (blk_lt (g := gb387) (o := .cells #[.slice none 0 0, .int .u64 0, .int .u64 0, .int .i64 0, .int .i64 0] 61 (0, 0)) (by (with_reducible repeat (first | refine blk_drewN ?_ _ | refine blk_drew ?_ | refine blk_alloc ?_ _)); exact BK387.out)) : gb387 ≠ gb390)); have n11_ := Aside0.mk ((by rw [hg]; exact Nat.ne_of_gt (blk_lt (g := gb387) (o := .cells #[.slice none 0 0, .int .u64 0, .int .u64 0, .int .i64 0, .int .i64 0] 61 (0, 0)) (by (with_reducible repeat (first | refine blk_drewN ?_ _ | refine blk_drew ?_ | refine blk_alloc ?_ _)); exact BK387.out)) : gb390 ≠ gb387)); have n12_ := Aside0.mk ((by rw [hg]; exact Nat.ne_of_lt (blk_lt (g := gb388) (o := .cells #[u389000, .int .u64 0, .int .u64 0, .int .i64 x389003_1, .int .i64 x389004_1] 61 (0, 0)) (by (with_reducible repeat (first | refine blk_drewN ?_ _ | refine blk_drew ?_ | refine blk_alloc ?_ _)); exact BK388.out)) : gb388 ≠ gb390)); have n13_ := Aside0.mk ((by rw [hg]; exact Nat.ne_of_gt (blk_lt (g := gb388) (o := .cells #[u389000, .int .u64 0, .int .u64 0, .int .i64 x389003_1, .int .i64 x389004_1] 61 (0, 0)) (by (with_reducible repeat (first | refine blk_drewN ?_ _ | refine blk_drew ?_ | refine blk_alloc ?_ _)); exact BK388.out)) : gb390 ≠ gb388)); clear HO_389000; clear BK386; clear BK387; clear BK388; clear HB; have HO_389000 := n0_; have BK386 := n1_; have BK387 := n2_; have BK388 := n3_; have HB := n4_; have BK390 := n5_; have GW390 := n6_; have GE390 := n7_; have NB386_390 := n8_; have NB390_386 := n9_; have NB387_390 := n10_; have NB390_387 := n11_; have NB388_390 := n12_; have NB390_388 := n13_; clear n0_ n1_ n2_ n3_ n4_ n5_ n6_ n7_ n8_ n9_ n10_ n11_ n12_ n13_; clear hb hbox hg; have hnb49 := NB390_386.out; have hnc49 := NB386_390.out; have hnb50 := NB390_387.out; have hnc50 := NB387_390.out; have hnb51 := NB390_388.out; have hnc51 := NB388_390.out; have hcz52_0 : w48.cell? ⟨gb390, 0, none⟩ = some (.int .u64 0) := (blk_cell BK390.out 0).trans rfl; have hcz52_1 : w48.cell? ⟨gb390, 1, none⟩ = some (.int .u64 0) := (blk_cell BK390.out 1).trans rfl; have hfz52_0 := blk_frozen BK390.out 0; have hfz52_1 := blk_frozen BK390.out 1; have hnb53 := NB386_387.out; have hnc53 := NB387_386.out; have hnb54 := NB386_388.out; have hnc54 := NB388_386.out; have hcz55_0 : w48.cell? ⟨gb386, 0, none⟩ = some (.int .u64 x387000_1) := (blk_cell BK386.out 0).trans rfl; have hcz55_1 : w48.cell? ⟨gb386, 1, none⟩ = some (.int .u64 x387001_1) := (blk_cell BK386.out 1).trans rfl; have hfz55_0 := blk_frozen BK386.out 0; have hfz55_1 := blk_frozen BK386.out 1) | ((with_reducible refine gate_callee (f := 81) rfl ?_); refine goesL_ (some 50) rfl rfl Tryd.func81 (by kernel_rfl) rfl #[.agg #[.int .u64 ((rd_T53 l1 x12_1).f0), .int .u64 ((rd_T53 l1 x12_1).f1)]] rfl (by (try simp only [List.map_toArray, List.map_cons, List.map_nil]); first | done | rfl | (simp only [List.length_drop, List.length_take]; rfl)) ?_; (with_reducible refine (spec_Nodes.calls k1 ((rd_T53 l1 x12_1).f0) ((rd_T53 l1 x12_1).f1) t401 _ A47.out).mono ?_); rintro e w56 ⟨v402, rfl, ho0, hb⟩; refine ⟨_, rfl, ?_⟩; have n0_ := Aside0.mk (Kd.R_elder' (by (with_reducible repeat (first | apply Kd.R_alloc | apply Kd.R_drewN | apply Kd.R_drew)); exact (Kd.R_mono (Kd.R_far (p := ⟨gb390, 1, none⟩) (Kd.R_far (p := ⟨gb390, 0, none⟩) (Kd.R_types HO_389000.out BK390.out (by decide)) (fun _ hk => hk.2) (.int .u64 ((rd_T53 l1 x12_1).f0))) (fun _ hk => hk.2) (.int .u64 ((rd_T53 l1 x12_1).f1))) (fun _ h_ => h_.1))) (Kd.R_base ho0) hb); have n1_ := Aside0.mk (Kd.R_lower (Kd.R_new' ho0 (Kd.R_lt (by (with_reducible repeat (first | apply Kd.R_alloc | apply Kd.R_drewN | apply Kd.R_drew)); exact (Kd.R_mono (Kd.R_far (p := ⟨gb390, 1, none⟩) (Kd.R_far (p := ⟨gb390, 0, none⟩) (Kd.R_types HO_389000.out BK390.out (by decide)) (fun _ hk => hk.2) (.int .u64 ((rd_T53 l1 x12_1).f0))) (fun _ hk => hk.2) (.int .u64 ((rd_T53 l1 x12_1).f1))) (fun _ h_ => h_.1))))) (below_size (by repeat (first | (with_reducible first | exact HB.out | apply below_alloc | apply pw_below_drewN | apply below_drew1 | refine below_set ?_ GE386.out | refine below_set ?_ GE387.out | refine below_set ?_ GE388.out | refine below_set ?_ GE390.out) | exact HB.out)))); have n2_ := Aside0.mk (blk_below (g := gb386) (o := .cells #[.int .u64 x387000_1, .int .u64 x387001_1] 53 (0, 0)) (by (with_reducible repeat (first | refine blk_drewN ?_ _ | refine blk_drew ?_ | refine blk_alloc ?_ _)); refine blk_far ?_ NB386_390.out _; (with_reducible repeat (first | refine blk_drewN ?_ _ | refine blk_drew ?_ | refine blk_alloc ?_ _)); refine blk_far ?_ NB386_390.out _; (with_reducible repeat (first | refine blk_drewN ?_ _ | refine blk_drew ?_ | refine blk_alloc ?_ _)); exact BK386.out) hb); have n3_ := Aside0.mk (blk_below (g := gb387) (o := .cells #[.slice none 0 0, .int .u64 0, .int .u64 0, .int .i64 0, .int .i64 0] 61 (0, 0)) (by (with_reducible repeat (first | refine blk_drewN ?_ _ | refine blk_drew ?_ | refine blk_alloc ?_ _)); refine blk_far ?_ NB387_390.out _; (with_reducible repeat (first | refine blk_drewN ?_ _ | refine blk_drew ?_ | refine blk_alloc ?_ _)); refine blk_far ?_ NB387_390.out _; (with_reducible repeat (first | refine blk_drewN ?_ _ | refine blk_drew ?_ | refine blk_alloc ?_ _)); exact BK387.out) hb); have n4_ := Aside0.mk (blk_below (g := gb388) (o := .cells #[u389000, .int .u64 0, .int .u64 0, .int .i64 x389003_1, .int .i64 x389004_1] 61 (0, 0)) (by (with_reducible repeat (first | refine blk_drewN ?_ _ | refine blk_drew ?_ | refine blk_alloc ?_ _)); refine blk_far ?_ NB388_390.out _; (with_reducible repeat (first | refine blk_drewN ?_ _ | refine blk_drew ?_ | refine blk_alloc ?_ _)); refine blk_far ?_ NB388_390.out _; (with_reducible repeat (first | refine blk_drewN ?_ _ | refine blk_drew ?_ | refine blk_alloc ?_ _)); exact BK388.out) hb); have n5_ := Aside0.mk (blk_below (g := gb390) (o := .cells #[.int .u64 ((rd_T53 l1 x12_1).f0), .int .u64 ((rd_T53 l1 x12_1).f1)] 53 (0, 0)) (by (with_reducible repeat (first | refine blk_drewN ?_ _ | refine blk_drew ?_ | refine blk_alloc ?_ _)); refine blk_put (cs := #[.int .u64 ((rd_T53 l1 x12_1).f0), .int .u64 0]) ?_ 1 _ rfl; (with_reducible repeat (first | refine blk_drewN ?_ _ | refine blk_drew ?_ | refine blk_alloc ?_ _)); refine blk_put (cs := #[.int .u64 0, .int .u64 0]) ?_ 0 _ rfl; (with_reducible repeat (first | refine blk_drewN ?_ _ | refine blk_drew ?_ | refine blk_alloc ?_ _)); exact BK390.out) hb); have n6_ := Aside0.mk (below_step (by repeat (first | (with_reducible first | exact HB.out | apply below_alloc | apply pw_below_drewN | apply below_drew1 | refine below_set ?_ GE386.out | refine below_set ?_ GE387.out | refine below_set ?_ GE388.out | refine below_set ?_ GE390.out) | exact HB.out)) hb); clear HO_389000; clear BK386; clear BK387; clear BK388; clear BK390; clear HB; have HO_389000 := n0_; have HO403 := n1_; have BK386 := n2_; have BK387 := n3_; have BK388 := n4_; have BK390 := n5_; have HB := n6_; clear n0_ n1_ n2_ n3_ n4_ n5_ n6_; (try clear hb); (try clear hb2); (try clear hk); (try clear hi); (try clear ho0); have hnb57 := NB388_387.out; have hnc57 := NB387_388.out; have hcz58_0 : w56.cell? ⟨gb388, 0, none⟩ = some (u389000) := (blk_cell BK388.out 0).trans rfl; have hcz58_1 : w56.cell? ⟨gb388, 1, none⟩ = some (.int .u64 0) := (blk_cell BK388.out 1).trans rfl; have hcz58_2 : w56.cell? ⟨gb388, 2, none⟩ = some (.int .u64 0) := (blk_cell BK388.out 2).trans rfl; have hcz58_3 : w56.cell? ⟨gb388, 3, none⟩ = some (.int .i64 x389003_1) := (blk_cell BK388.out 3).trans rfl; have hcz58_4 : w56.cell? ⟨gb388, 4, none⟩ = some (.int .i64 x389004_1) := (blk_cell BK388.out 4).trans rfl; have hfz58_0 := blk_frozen BK388.out 0; have hfz58_1 := blk_frozen BK388.out 1; have hfz58_2 := blk_frozen BK388.out 2; have hfz58_3 := blk_frozen BK388.out 3; have hfz58_4 := blk_frozen BK388.out 4; obtain ⟨Ao59, co59, eo59⟩ := Kd.R_slice HO_389000.out; subst eo59; obtain ⟨Ao60, co60, eo60⟩ := Kd.R_slice HO403.out; subst eo60))
                try simp only [Act.put, List.setIfInBounds_toArray, List.set_cons_zero, List.set_cons_succ]
                go_loopg [9] k1 (fun kq v9 w' => ∃ (x9_2 : Int) (x389000_2 : List (S49)) (u389000 : Value), v9 = .int .i64 x9_2 ∧ Aside0 (spec_proofOf.l1 kq t401 x9_2 l1 (l1.length : Int) x12_1 x387000_1 x387001_1 x389000_2 0 0 (x389000_1.length : Int) (wrap64 ((x389000_1.length : Int) + (t401.length : Int))) ((rd_T53 l1 x12_1).f0) ((rd_T53 l1 x12_1).f1) = some (r1, r2, r3, r4, r5)) ∧ Aside0 (kq ≤ k1) ∧ Aside0 (Kd.R k49 49 w' w.heap.size (fun k_ => some k_ ≠ (u389000 : Value).ownBlock) (.slice Ao60 t401.length co60) t401) ∧ Aside0 (Kd.R k49 49 w' w.heap.size (fun k_ => some k_ ≠ ((.slice Ao60 t401.length co60) : Value).ownBlock) u389000 x389000_2) ∧ Aside0 (w'.heap[gb386]? = some (.cells #[.int .u64 x387000_1, .int .u64 x387001_1] 53 (0, 0))) ∧ Aside0 (w'.heap[gb387]? = some (.cells #[(.slice none 0 0), .int .u64 0, .int .u64 0, .int .i64 0, .int .i64 0] 61 (0, 0))) ∧ Aside0 (w'.heap[gb388]? = some (.cells #[u389000, .int .u64 0, .int .u64 0, .int .i64 (x389000_1.length : Int), .int .i64 (wrap64 ((x389000_1.length : Int) + (t401.length : Int)))] 61 (0, 0))) ∧ Aside0 (w'.heap[gb390]? = some (.cells #[.int .u64 ((rd_T53 l1 x12_1).f0), .int .u64 ((rd_T53 l1 x12_1).f1)] 53 (0, 0))) ∧ Aside0 (Below w.heap.size w w'))
                case atStart => exact ⟨(wrap64 ((t401.length : Int) - 1)), (x389000_1), (.slice Ao59 x389000_1.length co59), (by first | rfl | (simp; done) | (simp [*]; done)), H', ⟨Nat.le_refl _⟩, ⟨by (with_reducible repeat (first | apply Kd.R_alloc | apply Kd.R_drewN | apply Kd.R_drew)); exact Kd.R_mono (Kd.R_far (p := ⟨gb388, 4, none⟩) (Kd.R_far (p := ⟨gb388, 3, none⟩) (Kd.R_types HO403.out BK388.out (by decide)) (fun _ hk => hk.2) (.int .i64 (x389000_1.length : Int))) (fun _ hk => hk.2) (.int .i64 (wrap64 ((x389000_1.length : Int) + (t401.length : Int))))) (fun _ hk => hk.1.2)⟩, ⟨by (with_reducible repeat (first | apply Kd.R_alloc | apply Kd.R_drewN | apply Kd.R_drew)); exact Kd.R_mono (Kd.R_far (p := ⟨gb388, 4, none⟩) (Kd.R_far (p := ⟨gb388, 3, none⟩) (Kd.R_types HO_389000.out BK388.out (by decide)) (fun _ hk => hk.2) (.int .i64 (x389000_1.length : Int))) (fun _ hk => hk.2) (.int .i64 (wrap64 ((x389000_1.length : Int) + (t401.length : Int))))) (fun _ hk => hk.1.2)⟩, ⟨by (with_reducible repeat (first | refine blk_drewN ?_ _ | refine blk_drew ?_ | refine blk_alloc ?_ _)); refine blk_far ?_ NB386_388.out _; (with_reducible repeat (first | refine blk_drewN ?_ _ | refine blk_drew ?_ | refine blk_alloc ?_ _)); refine blk_far ?_ NB386_388.out _; (with_reducible repeat (first | refine blk_drewN ?_ _ | refine blk_drew ?_ | refine blk_alloc ?_ _)); exact BK386.out⟩, ⟨by (with_reducible repeat (first | refine blk_drewN ?_ _ | refine blk_drew ?_ | refine blk_alloc ?_ _)); refine blk_far ?_ NB387_388.out _; (with_reducible repeat (first | refine blk_drewN ?_ _ | refine blk_drew ?_ | refine blk_alloc ?_ _)); refine blk_far ?_ NB387_388.out _; (with_reducible repeat (first | refine blk_drewN ?_ _ | refine blk_drew ?_ | refine blk_alloc ?_ _)); exact BK387.out⟩, ⟨by (with_reducible repeat (first | refine blk_drewN ?_ _ | refine blk_drew ?_ | refine blk_alloc ?_ _)); refine blk_put (cs := #[.slice Ao59 x389000_1.length co59, .int .u64 0, .int .u64 0, .int .i64 (x389000_1.length : Int), .int .i64 x389004_1]) ?_ 4 _ rfl; (with_reducible repeat (first | refine blk_drewN ?_ _ | refine blk_drew ?_ | refine blk_alloc ?_ _)); refine blk_put (cs := #[.slice Ao59 x389000_1.length co59, .int .u64 0, .int .u64 0, .int .i64 x389003_1, .int .i64 x389004_1]) ?_ 3 _ rfl; (with_reducible repeat (first | refine blk_drewN ?_ _ | refine blk_drew ?_ | refine blk_alloc ?_ _)); exact BK388.out⟩, ⟨by (with_reducible repeat (first | refine blk_drewN ?_ _ | refine blk_drew ?_ | refine blk_alloc ?_ _)); refine blk_far ?_ NB390_388.out _; (with_reducible repeat (first | refine blk_drewN ?_ _ | refine blk_drew ?_ | refine blk_alloc ?_ _)); refine blk_far ?_ NB390_388.out _; (with_reducible repeat (first | refine blk_drewN ?_ _ | refine blk_drew ?_ | refine blk_alloc ?_ _)); exact BK390.out⟩, ⟨by repeat (first | (with_reducible first | exact HB.out | apply below_alloc | apply pw_below_drewN | apply below_drew1 | refine below_set ?_ GE386.out | refine below_set ?_ GE387.out | refine below_set ?_ GE388.out | refine below_set ?_ GE390.out) | exact HB.out)⟩⟩
                case round =>
                  clear H'
                  try clear c1
                  try clear c2
                  try clear p2
                  try clear c3
                  try clear p3
                  try clear q3
                  try clear hx3
                  try clear c4
                  try clear c5
                  try clear c6
                  try clear c6b0
                  try clear p6
                  try clear c7
                  try clear c7b0
                  try clear c8
                  try clear c8b0
                  try clear c9
                  try clear c9b0
                  try clear c9b1
                  try clear c11
                  try clear c13
                  try clear c14
                  try clear c15
                  try clear c17
                  try clear c18
                  try clear c28
                  try clear c28b0
                  try clear c28b1
                  try clear c30
                  try clear c32
                  try clear c33
                  try clear c34
                  try clear c36
                  try clear c37
                  try clear p38
                  try clear q38
                  try clear hx38
                  try clear c49
                  try clear c50
                  try clear c51
                  try clear c53
                  try clear c54
                  try clear c57
                  try clear hcz16_0
                  try clear hcz16_1
                  try clear hcz19_0
                  try clear hcz19_1
                  try clear hcz26_0
                  try clear hcz26_1
                  try clear hcz27_0
                  try clear hcz27_1
                  try clear hcz35_0
                  try clear hcz35_1
                  try clear hcz38_0
                  try clear hcz38_1
                  try clear hcz45_0
                  try clear hcz45_1
                  try clear hcz46_0
                  try clear hcz46_1
                  try clear hcz52_0
                  try clear hcz52_1
                  try clear hcz55_0
                  try clear hcz55_1
                  try clear hcz58_0
                  try clear hcz58_1
                  try clear hcz58_2
                  try clear hcz58_3
                  try clear hcz58_4
                  try clear hfz16_0
                  try clear hfz16_1
                  try clear hfz19_0
                  try clear hfz19_1
                  try clear hfz26_0
                  try clear hfz26_1
                  try clear hfz27_0
                  try clear hfz27_1
                  try clear hfz35_0
                  try clear hfz35_1
                  try clear hfz38_0
                  try clear hfz38_1
                  try clear hfz45_0
                  try clear hfz45_1
                  try clear hfz46_0
                  try clear hfz46_1
                  try clear hfz52_0
                  try clear hfz52_1
                  try clear hfz55_0
                  try clear hfz55_1
                  try clear hfz58_0
                  try clear hfz58_1
                  try clear hfz58_2
                  try clear hfz58_3
                  try clear hfz58_4
                  try clear hx389_0
                  try clear hx389_1
                  try clear p2
                  try clear p389
                  try clear q389
                  obtain ⟨x9_2, x389000_2, u389000, rfl, HA, HK2, HO_8, HO_389000, BK386, BK387, BK388, BK390, HB⟩ := hrel
                  cases gk with
                  | zero => exact absurd HA.out (by simp [spec_proofOf.l1])
                  | succ k2 =>
                    have H := HA.out
                    clear HA
                    simp only [spec_proofOf.l1] at H
                    by_cases c61 : x9_2 ≥ 0
                    · rw [if_pos c61] at H
                      have c61b0 : decide (0 ≤ x9_2) = true := decide_eq_true c61
                      clear c61
                      by_cases c62 : 0 ≤ x9_2
                      · rw [if_pos c62] at H
                        have c62b0 : decide (0 ≤ x9_2) = true := decide_eq_true c62
                        clear c62
                        by_cases c63 : x9_2 < (t401.length : Int)
                        · rw [if_pos c63] at H
                          have c63b0 : decide (x9_2 < (t401.length : Int)) = true := decide_eq_true c63
                          clear c63
                          by_cases c64 : x389000_2.length < 8796093022208
                          · rw [if_pos c64] at H
                            have LMc64 := Aside0.mk c64
                            clear c64
                            obtain ⟨y405, hy405⟩ : ∃ y_ : List (S49), y_ = (x389000_2 ++ [(⟨(rd_T49 t401 x9_2).f0, (rd_T49 t401 x9_2).f1⟩ : S49)]) := ⟨_, rfl⟩
                            replace H : (spec_proofOf.l1 k2 t401 (wrap64 (x9_2 - 1)) l1 (l1.length : Int) x12_1 x387000_1 x387001_1 y405 0 0 (x389000_1.length : Int) (wrap64 ((x389000_1.length : Int) + (t401.length : Int))) ((rd_T53 l1 x12_1).f0) ((rd_T53 l1 x12_1).f1)) = some (r1, r2, r3, r4, r5) := by first | (rw [hy405]; with_reducible exact H) | (have H2_ := (Option.bind_some _ _).symm.trans H; rw [hy405]; with_reducible exact H2_) | (have H2_ := (Option.bind_some _ _).symm.trans H; with_reducible exact H2_) | with_reducible exact H | (rw [hy405]; exact H) | exact H
                            have Ny405 := Aside0.mk hy405
                            clear hy405
                            have H' := Aside0.mk H
                            clear H
                            try go_wp2
                            (try (rw [drewN_self wr]; generalize hq_ : World.drewN wr _ = wr; have n0_ : Aside0 (Kd.R k49 49 wr w.heap.size (fun k_ => some k_ ≠ (.slice Ao60 t401.length co60 : Value).ownBlock) u389000 x389000_2) := ⟨by rw [← hq_]; exact (by (with_reducible repeat (first | apply Kd.R_alloc | apply Kd.R_drewN | apply Kd.R_drew)); exact HO_389000.out)⟩; have n1_ : Aside0 (Kd.R k49 49 wr w.heap.size (fun k_ => some k_ ≠ (u389000 : Value).ownBlock) (.slice Ao60 t401.length co60) t401) := ⟨by rw [← hq_]; exact (by (with_reducible repeat (first | apply Kd.R_alloc | apply Kd.R_drewN | apply Kd.R_drew)); exact HO_8.out)⟩; have n2_ : Aside0 (wr.heap[gb386]? = some (.cells #[.int .u64 x387000_1, .int .u64 x387001_1] 53 (0, 0))) := ⟨by rw [← hq_]; exact (by (with_reducible repeat (first | refine blk_drewN ?_ _ | refine blk_drew ?_ | refine blk_alloc ?_ _)); exact BK386.out)⟩; have n3_ : Aside0 (wr.heap[gb387]? = some (.cells #[.slice none 0 0, .int .u64 0, .int .u64 0, .int .i64 0, .int .i64 0] 61 (0, 0))) := ⟨by rw [← hq_]; exact (by (with_reducible repeat (first | refine blk_drewN ?_ _ | refine blk_drew ?_ | refine blk_alloc ?_ _)); exact BK387.out)⟩; have n4_ : Aside0 (wr.heap[gb388]? = some (.cells #[u389000, .int .u64 0, .int .u64 0, .int .i64 (x389000_1.length : Int), .int .i64 (wrap64 ((x389000_1.length : Int) + (t401.length : Int)))] 61 (0, 0))) := ⟨by rw [← hq_]; exact (by (with_reducible repeat (first | refine blk_drewN ?_ _ | refine blk_drew ?_ | refine blk_alloc ?_ _)); exact BK388.out)⟩; have n5_ : Aside0 (wr.heap[gb390]? = some (.cells #[.int .u64 ((rd_T53 l1 x12_1).f0), .int .u64 ((rd_T53 l1 x12_1).f1)] 53 (0, 0))) := ⟨by rw [← hq_]; exact (by (with_reducible repeat (first | refine blk_drewN ?_ _ | refine blk_drew ?_ | refine blk_alloc ?_ _)); exact BK390.out)⟩; have n6_ : Aside0 (Below w.heap.size w wr) := ⟨by rw [← hq_]; exact (by repeat (first | (with_reducible first | exact HB.out | apply below_alloc | apply pw_below_drewN | apply below_drew1 | refine below_set ?_ GE386.out | refine below_set ?_ GE387.out | refine below_set ?_ GE388.out | refine below_set ?_ GE390.out) | exact HB.out))⟩; clear HO_389000 HO_8 BK386 BK387 BK388 BK390 HB hq_; have HO_389000 := n0_; have HO_8 := n1_; have BK386 := n2_; have BK387 := n3_; have BK388 := n4_; have BK390 := n5_; have HB := n6_; clear n0_ n1_ n2_ n3_ n4_ n5_ n6_))
                            have n0_ := Aside0.mk (Kd.R_drew HO_8.out)
                            have n1_ := Aside0.mk (Kd.R_drew HO_389000.out)
                            have n2_ := Aside0.mk (blk_drew BK386.out)
                            have n3_ := Aside0.mk (blk_drew BK387.out)
                            have n4_ := Aside0.mk (blk_drew BK388.out)
                            have n5_ := Aside0.mk (blk_drew BK390.out)
                            have n6_ := Aside0.mk (below_drew1 HB.out)
                            clear HO_8
                            clear HO_389000
                            clear BK386
                            clear BK387
                            clear BK388
                            clear BK390
                            clear HB
                            have HO_8 := n0_
                            have HO_389000 := n1_
                            have BK386 := n2_
                            have BK387 := n3_
                            have BK388 := n4_
                            have BK390 := n5_
                            have HB := n6_
                            clear n0_ n1_ n2_ n3_ n4_ n5_ n6_
                            have p404 : 0 ≤ (x9_2 : Int) := of_decide_eq_true (by first | (with_reducible assumption) | assumption)
                            have q404 : x9_2 < (t401.length : Int) := of_decide_eq_true (by first | (with_reducible assumption) | assumption)
                            obtain ⟨ad404, e404, hx404_0, hx404_1⟩ := at_T49 (Kd.R_reads' HO_8.out).2.2 x9_2 p404 q404
                            cases e404
                            replace p404 := eq_true p404
                            replace q404 := eq_true q404
                            refine start_ (n := 10) (S := fun w' => w'.cell? ⟨gb388, 0, none⟩ = some (u389000) ∧ w'.cell? ⟨gb388, 1, none⟩ = some (.int .u64 0) ∧ w'.cell? ⟨gb388, 2, none⟩ = some (.int .u64 0) ∧ w'.cell? ⟨gb388, 3, none⟩ = some (.int .i64 (x389000_1.length : Int)) ∧ w'.cell? ⟨gb388, 4, none⟩ = some (.int .i64 (wrap64 ((x389000_1.length : Int) + (t401.length : Int)))) ∧ w'.cell? (ad404.add ((x9_2).toNat * 2)) = some (.int .u64 ((rd_T49 t401 x9_2).f0)) ∧ w'.cell? ⟨(ad404.add ((x9_2).toNat * 2)).block, (ad404.add ((x9_2).toNat * 2)).off + 1, none⟩ = some (.int .u64 ((rd_T49 t401 x9_2).f1))) (ds := [7, 9]) #[false, false, false, false, false, false, false, false, false, false] (by kernel_rfl) rfl rfl ⟨(blk_cell BK388.out 0).trans rfl, (blk_cell BK388.out 1).trans rfl, (blk_cell BK388.out 2).trans rfl, (blk_cell BK388.out 3).trans rfl, (blk_cell BK388.out 4).trans rfl, hx404_0, hx404_1⟩ (fun hHeld => ?_); refine with_tabW spec_proofOf.tab15 spec_proofOf.bits15 (fun HT_ HW_ => ?_)
                            generalize wr.drew = w65 at HO_8 HO_389000 BK386 BK387 BK388 BK390 HB hx404_0 hx404_1 hHeld ⊢
                            refine pure_ (i := 0) (N := some 69) (v := ?_) (a' := ?_) #[true, false, false, false, false, false, false, false, false, false] rfl rfl (any_of HT_.out (by kernel_rfl)) (fun _ _ _ h => h) (Or.inl ⟨by rfl, ?_⟩) ?_ ?_
                            rotate_left
                            · intro w'
                              go_simp
                              with_reducible rfl
                            rotate_left
                            · simp only [Act.put, List.setIfInBounds_toArray, List.set_cons_zero, List.set_cons_succ, i64_w, i32_w]
                              rfl
                            refine pure_ (i := 2) (N := some 71) (v := ?_) (a' := ?_) #[true, false, true, false, false, false, false, false, false, false] rfl rfl (any_of HT_.out (by kernel_rfl)) (fun _ _ _ h => h) (Or.inl ⟨by rfl, ?_⟩) ?_ ?_
                            rotate_left
                            · intro w'
                              go_simp
                              with_reducible rfl
                            rotate_left
                            · simp only [Act.put, List.setIfInBounds_toArray, List.set_cons_zero, List.set_cons_succ, i64_w, i32_w]
                              rfl
                            refine pure_ (i := 3) (N := some 72) (v := ?_) (a' := ?_) #[true, false, true, true, false, false, false, false, false, false] rfl rfl (any_of HT_.out (by kernel_rfl)) (fun _ _ _ h => h) (Or.inl ⟨by rfl, ?_⟩) ?_ ?_
                            rotate_left
                            · intro w'
                              go_simp
                              with_reducible rfl
                            rotate_left
                            · simp only [Act.put, List.setIfInBounds_toArray, List.set_cons_zero, List.set_cons_succ, i64_w, i32_w]
                              rfl
                            refine pure_ (i := 4) (N := some 73) (v := ?_) (a' := ?_) #[true, false, true, true, true, false, false, false, false, false] rfl rfl (any_of HT_.out (by kernel_rfl)) (fun _ _ _ h => h) (Or.inl ⟨by rfl, ?_⟩) ?_ ?_
                            rotate_left
                            · intro w'
                              go_simp
                              with_reducible rfl
                            rotate_left
                            · simp only [Act.put, List.setIfInBounds_toArray, List.set_cons_zero, List.set_cons_succ, i64_w, i32_w]
                              rfl
                            refine take_ (i := 1) (N := some 70) (v := ?_) (a' := ?_) #[true, true, true, true, true, false, false, false, false, false] rfl rfl (take_ofW HT_.out HW_.out (by kernel_rfl)) (fun _ _ _ h => h) (Or.inl ⟨by rfl, ?_⟩) hHeld ?_ ?_
                            rotate_left
                            · rintro w' ⟨s0, s1, s2, s3, s4, s5, s6⟩
                              go_simp
                              with_reducible rfl
                            rotate_left
                            · simp only [Act.put, List.setIfInBounds_toArray, List.set_cons_zero, List.set_cons_succ, i64_w, i32_w]
                              rfl
                            refine take_ (i := 5) (N := some 74) (v := ?_) (a' := ?_) #[true, true, true, true, true, true, false, false, false, false] rfl rfl (take_ofW HT_.out HW_.out (by kernel_rfl)) (fun _ _ _ h => h) (Or.inl ⟨by rfl, ?_⟩) hHeld ?_ ?_
                            rotate_left
                            · rintro w' ⟨s0, s1, s2, s3, s4, s5, s6⟩
                              go_simp
                              with_reducible rfl
                            rotate_left
                            · simp only [Act.put, List.setIfInBounds_toArray, List.set_cons_zero, List.set_cons_succ, i64_w, i32_w]
                              rfl
                            refine one_ (i := 6) (N := some 75) #[true, true, true, true, true, true, true, false, false, false] rfl rfl (one_of HT_.out (by kernel_rfl)) (by decide) (fun K hK => ?_)
                            refine value_ (w1 := ?_) (v := ?_) (by rfl) rfl ?_ ?_
                            rotate_left 2
                            · go_simp
                              constructor
                              · rfl
                              · rfl
                            refine hK.out _ _ ⟨(blk_cell (blk_alloc BK388.out _) 0).trans rfl, (blk_cell (blk_alloc BK388.out _) 1).trans rfl, (blk_cell (blk_alloc BK388.out _) 2).trans rfl, (blk_cell (blk_alloc BK388.out _) 3).trans rfl, (blk_cell (blk_alloc BK388.out _) 4).trans rfl, (World.cell?_alloc_lt _ _ _ (World.block_lt_of_cell? _ _ (hHeld.2.2.2.2.2.1))).trans (hHeld.2.2.2.2.2.1), (World.cell?_alloc_lt _ _ _ (World.block_lt_of_cell? _ _ (hHeld.2.2.2.2.2.2))).trans (hHeld.2.2.2.2.2.2)⟩ (fun hHeld => ?_)
                            clear hK K
                            refine norm_ (a' := ?_) ?_ ?_
                            rotate_left
                            · show Act.put _ (some 75) _ = _
                              simp only [Act.put, List.setIfInBounds_toArray, List.set_cons_zero, List.set_cons_succ, i64_w, i32_w]
                              rfl
                            refine last_ (i := 7) (N := some 76) #[true, true, true, true, true, true, true, true, false, false] rfl rfl (one_of HT_.out (by kernel_rfl)) (by decide) (fun K hK => ?_)
                            refine Kd.R_append_step k49 (w0 := w) w.heap.size (by rfl) (.tmp 70) (.tmp 75) 59 49 (.agg #[(.int .u64 0), (.int .u64 0)]) 16 rfl Tryd.underlying59 info49 rfl (by decide) (by omega) u389000 x389000_2 (⟨(rd_T49 t401 x9_2).f0, (rd_T49 t401 x9_2).f1⟩ : S49) [.int .u64 ((rd_T49 t401 x9_2).f0), .int .u64 ((rd_T49 t401 x9_2).f1)] (fun k_ => some k_ ≠ (.slice (some ad404) t401.length co60 : Value).ownBlock) (fun _ => False) rfl rfl ?aP (fun _ hk => hk.elim) ?aF ?aO ?aB ?aS ?aL ?_
                            (case aP => exact k49_mkM _ _ _ (⟨(rd_T49 t401 x9_2).f0, (rd_T49 t401 x9_2).f1⟩ : S49))
                            (case aB => exact (by repeat (first | (with_reducible first | exact HB.out | apply below_alloc | apply pw_below_drewN | apply below_drew1 | refine below_set ?_ GE386.out | refine below_set ?_ GE387.out | refine below_set ?_ GE388.out | refine below_set ?_ GE390.out) | exact HB.out)))
                            (case aF => exact (fun k_ hk => Kd.fresh' (Kd.R_lt (by (with_reducible repeat (first | apply Kd.R_alloc | apply Kd.R_drewN | apply Kd.R_drew)); exact HO_8.out)) k_ hk))
                            (case aO => exact (by (with_reducible repeat (first | apply Kd.R_alloc | apply Kd.R_drewN | apply Kd.R_drew)); exact HO_389000.out))
                            (case aS => exact (below_size (by repeat (first | (with_reducible first | exact HB.out | apply below_alloc | apply pw_below_drewN | apply below_drew1 | refine below_set ?_ GE386.out | refine below_set ?_ GE387.out | refine below_set ?_ GE388.out | refine below_set ?_ GE390.out) | exact HB.out))))
                            (case aL => have := LMc64.out; omega)
                            intro v406 w66 ho hb hg hat
                            rw [← Ny405.out] at ho
                            have n0_ := Aside0.mk (Kd.R_after (ok := (fun _ => True)) (by (with_reducible repeat (first | apply Kd.R_alloc | apply Kd.R_drewN | apply Kd.R_drew)); exact Kd.R_mono HO_8.out (fun _ hk => ⟨trivial, hk⟩)) hg hat)
                            have n1_ := Aside0.mk (blk_grown (g := gb386) (o := .cells #[.int .u64 x387000_1, .int .u64 x387001_1] 53 (0, 0)) (by (with_reducible repeat (first | refine blk_drewN ?_ _ | refine blk_drew ?_ | refine blk_alloc ?_ _)); exact BK386.out) hg (Kd.R_ne HO_389000.out BK386.out (by decide)))
                            have n2_ := Aside0.mk (blk_grown (g := gb387) (o := .cells #[.slice none 0 0, .int .u64 0, .int .u64 0, .int .i64 0, .int .i64 0] 61 (0, 0)) (by (with_reducible repeat (first | refine blk_drewN ?_ _ | refine blk_drew ?_ | refine blk_alloc ?_ _)); exact BK387.out) hg (Kd.R_ne HO_389000.out BK387.out (by decide)))
                            have n3_ := Aside0.mk (blk_grown (g := gb388) (o := .cells #[u389000, .int .u64 0, .int .u64 0, .int .i64 (x389000_1.length : Int), .int .i64 (wrap64 ((x389000_1.length : Int) + (t401.length : Int)))] 61 (0, 0)) (by (with_reducible repeat (first | refine blk_drewN ?_ _ | refine blk_drew ?_ | refine blk_alloc ?_ _)); exact BK388.out) hg (Kd.R_ne HO_389000.out BK388.out (by decide)))
                            have n4_ := Aside0.mk (blk_grown (g := gb390) (o := .cells #[.int .u64 ((rd_T53 l1 x12_1).f0), .int .u64 ((rd_T53 l1 x12_1).f1)] 53 (0, 0)) (by (with_reducible repeat (first | refine blk_drewN ?_ _ | refine blk_drew ?_ | refine blk_alloc ?_ _)); exact BK390.out) hg (Kd.R_ne HO_389000.out BK390.out (by decide)))
                            have n5_ := Aside0.mk (hb)
                            have n6_ := Aside0.mk (ho)
                            clear HO_8
                            clear BK386
                            clear BK387
                            clear BK388
                            clear BK390
                            clear HB
                            clear HO_389000
                            have HO_8 := n0_
                            have BK386 := n1_
                            have BK387 := n2_
                            have BK388 := n3_
                            have BK390 := n4_
                            have HB := n5_
                            have HO407 := n6_
                            clear n0_ n1_ n2_ n3_ n4_ n5_ n6_
                            clear ho hb hg hat
                            obtain ⟨Ao67, co67, eo67⟩ := Kd.R_slice HO407.out
                            (first | subst eo67 | (injection eo67 with f1_ f2_ f3_; have f4_ := f1_.symm; have f5_ := f3_.symm; clear f1_ f2_ f3_; subst f4_; subst f5_))
                            refine hK.out _ _ ?_
                            clear hK K
                            refine norm_ (a' := ?_) ?_ ?_
                            rotate_left
                            · show Act.put _ (some 76) _ = _
                              simp only [Act.put, List.setIfInBounds_toArray, List.set_cons_zero, List.set_cons_succ, i64_w, i32_w]
                              rfl
                            refine pure_ (i := 8) (N := some 77) (v := ?_) (a' := ?_) #[true, true, true, true, true, true, true, true, true, false] rfl rfl (any_of HT_.out (by kernel_rfl)) (fun _ _ _ h => h) (Or.inl ⟨by rfl, ?_⟩) ?_ ?_
                            rotate_left
                            · intro w'
                              go_simp
                              with_reducible rfl
                            rotate_left
                            · simp only [Act.put, List.setIfInBounds_toArray, List.set_cons_zero, List.set_cons_succ, i64_w, i32_w]
                              rfl
                            refine last_ (i := 9) (N := none) #[true, true, true, true, true, true, true, true, true, true] rfl rfl (one_of HT_.out (by kernel_rfl)) (by decide) (fun K hK => ?_)
                            have hs68 : w66.cell? ⟨gb388, 0, none⟩ = some (u389000) := (blk_cell BK388.out 0).trans rfl
                            have hfs68 := blk_frozen BK388.out 0
                            have hns68_0 := NB386_388.out
                            have hns68_1 := NB387_388.out
                            have hns68_3 := NB390_388.out
                            have hms68_0 := NB388_386.out
                            have hms68_1 := NB388_387.out
                            have hms68_3 := NB388_390.out
                            refine skip_ (w1 := ?_) (by rfl) rfl ?_ ?_
                            rotate_left
                            · go_simp
                              rfl
                            refine hK.out _ _ ?_
                            clear hK K
                            refine done_ (done_of HT_.out (by kernel_rfl)) ?_
                            try go_wp2
                            go_roundg k2
                            case measure => have := HK1.out; have := HK2.out; omega
                            case rel => exact ⟨(wrap64 (x9_2 - 1)), (y405), (.slice Ao67 y405.length co67), (by first | rfl | (simp; done) | (simp [*]; done)), H', ⟨by have := HK1.out; have := HK2.out; omega⟩, ⟨by (with_reducible repeat (first | apply Kd.R_alloc | apply Kd.R_drewN | apply Kd.R_drew)); exact Kd.R_mono (Kd.R_far (p := ⟨gb388, 0, none⟩) (Kd.R_types HO_8.out BK388.out (by decide)) (fun _ hk => hk.2) (.slice Ao67 y405.length co67)) (fun _ hk => hk.1.2)⟩, ⟨by (with_reducible repeat (first | apply Kd.R_alloc | apply Kd.R_drewN | apply Kd.R_drew)); exact Kd.R_mono (Kd.R_far (p := ⟨gb388, 0, none⟩) (Kd.R_types HO407.out BK388.out (by decide)) (fun _ hk => hk.2) (.slice Ao67 y405.length co67)) (fun _ hk => hk.1)⟩, ⟨by (with_reducible repeat (first | refine blk_drewN ?_ _ | refine blk_drew ?_ | refine blk_alloc ?_ _)); refine blk_far ?_ NB386_388.out _; (with_reducible repeat (first | refine blk_drewN ?_ _ | refine blk_drew ?_ | refine blk_alloc ?_ _)); exact BK386.out⟩, ⟨by (with_reducible repeat (first | refine blk_drewN ?_ _ | refine blk_drew ?_ | refine blk_alloc ?_ _)); refine blk_far ?_ NB387_388.out _; (with_reducible repeat (first | refine blk_drewN ?_ _ | refine blk_drew ?_ | refine blk_alloc ?_ _)); exact BK387.out⟩, ⟨by (with_reducible repeat (first | refine blk_drewN ?_ _ | refine blk_drew ?_ | refine blk_alloc ?_ _)); refine blk_put (cs := #[u389000, .int .u64 0, .int .u64 0, .int .i64 (x389000_1.length : Int), .int .i64 (wrap64 ((x389000_1.length : Int) + (t401.length : Int)))]) ?_ 0 _ rfl; (with_reducible repeat (first | refine blk_drewN ?_ _ | refine blk_drew ?_ | refine blk_alloc ?_ _)); exact BK388.out⟩, ⟨by (with_reducible repeat (first | refine blk_drewN ?_ _ | refine blk_drew ?_ | refine blk_alloc ?_ _)); refine blk_far ?_ NB390_388.out _; (with_reducible repeat (first | refine blk_drewN ?_ _ | refine blk_drew ?_ | refine blk_alloc ?_ _)); exact BK390.out⟩, ⟨by repeat (first | (with_reducible first | exact HB.out | apply below_alloc | apply pw_below_drewN | apply below_drew1 | refine below_set ?_ GE386.out | refine below_set ?_ GE387.out | refine below_set ?_ GE388.out | refine below_set ?_ GE390.out) | exact HB.out)⟩⟩
                          · rw [if_neg c64] at H
                            exact absurd H (by simp)
                        · rw [if_neg c63] at H
                          exact absurd H (by simp)
                      · rw [if_neg c62] at H
                        exact absurd H (by simp)
                    · rw [if_neg c61] at H
                      have c61b0 : decide (0 ≤ x9_2) = false := decide_eq_false c61
                      clear c61
                      have H' := Aside0.mk H
                      clear H
                      have hnb69 := NB390_386.out
                      have hnc69 := NB386_390.out
                      have hnb70 := NB390_387.out
                      have hnc70 := NB387_390.out
                      have hnb71 := NB390_388.out
                      have hnc71 := NB388_390.out
                      have hcz72_0 : wr.cell? ⟨gb390, 0, none⟩ = some (.int .u64 ((rd_T53 l1 x12_1).f0)) := (blk_cell BK390.out 0).trans rfl
                      have hcz72_1 : wr.cell? ⟨gb390, 1, none⟩ = some (.int .u64 ((rd_T53 l1 x12_1).f1)) := (blk_cell BK390.out 1).trans rfl
                      have hfz72_0 := blk_frozen BK390.out 0
                      have hfz72_1 := blk_frozen BK390.out 1
                      have hnb73 := NB386_387.out
                      have hnc73 := NB387_386.out
                      have hnb74 := NB386_388.out
                      have hnc74 := NB388_386.out
                      have hcz75_0 : wr.cell? ⟨gb386, 0, none⟩ = some (.int .u64 x387000_1) := (blk_cell BK386.out 0).trans rfl
                      have hcz75_1 : wr.cell? ⟨gb386, 1, none⟩ = some (.int .u64 x387001_1) := (blk_cell BK386.out 1).trans rfl
                      have hfz75_0 := blk_frozen BK386.out 0
                      have hfz75_1 := blk_frozen BK386.out 1
                      go_wp2
                      go_roundg k2
                      case measure => have := HK1.out; have := HK2.out; omega
                      case rel => exact ⟨(wrap64 (x12_1 + 1)), (x387000_1), (((rd_T53 l1 x12_1).f1)), (x389000_2), ((x389000_1.length : Int)), ((wrap64 ((x389000_1.length : Int) + (t401.length : Int)))), (u389000), (by first | rfl | (simp; done) | (simp [*]; done)), H', ⟨by have := HK1.out; have := HK2.out; omega⟩, ⟨by (with_reducible repeat (first | apply Kd.R_alloc | apply Kd.R_drewN | apply Kd.R_drew)); exact Kd.R_mono (Kd.R_far (p := ⟨gb386, 1, none⟩) (Kd.R_types HO_389000.out BK386.out (by decide)) (fun _ hk => hk.2) (.int .u64 ((rd_T53 l1 x12_1).f1))) (fun _ hk => trivial)⟩, ⟨by (with_reducible repeat (first | refine blk_drewN ?_ _ | refine blk_drew ?_ | refine blk_alloc ?_ _)); refine blk_put (cs := #[.int .u64 x387000_1, .int .u64 x387001_1]) ?_ 1 _ rfl; (with_reducible repeat (first | refine blk_drewN ?_ _ | refine blk_drew ?_ | refine blk_alloc ?_ _)); exact BK386.out⟩, ⟨by (with_reducible repeat (first | refine blk_drewN ?_ _ | refine blk_drew ?_ | refine blk_alloc ?_ _)); refine blk_far ?_ NB387_386.out _; (with_reducible repeat (first | refine blk_drewN ?_ _ | refine blk_drew ?_ | refine blk_alloc ?_ _)); exact BK387.out⟩, ⟨by (with_reducible repeat (first | refine blk_drewN ?_ _ | refine blk_drew ?_ | refine blk_alloc ?_ _)); refine blk_far ?_ NB388_386.out _; (with_reducible repeat (first | refine blk_drewN ?_ _ | refine blk_drew ?_ | refine blk_alloc ?_ _)); exact BK388.out⟩, ⟨by repeat (first | (with_reducible first | exact HB.out | apply below_alloc | apply pw_below_drewN | apply below_drew1 | refine below_set ?_ GE386.out | refine below_set ?_ GE387.out | refine below_set ?_ GE388.out | refine below_set ?_ GE390.out) | exact HB.out)⟩⟩
          · rw [if_neg c8] at H
            exact absurd H (by simp)
        · rw [if_neg c7] at H
          exact absurd H (by simp)
      · rw [if_neg c6] at H
        have c6b0 : decide (x12_1 < (l1.length : Int)) = false := decide_eq_false c6
        clear c6
        simp only [Option.some.injEq, Prod.mk.injEq] at H
        obtain ⟨rfl, rfl, rfl, rfl, rfl⟩ := H
        have hnb76 := NB388_386.out
        have hnc76 := NB386_388.out
        have hnb77 := NB388_387.out
        have hnc77 := NB387_388.out
        have hcz78_0 : wr.cell? ⟨gb388, 0, none⟩ = some (u389000) := (blk_cell BK388.out 0).trans rfl
        have hcz78_1 : wr.cell? ⟨gb388, 1, none⟩ = some (.int .u64 0) := (blk_cell BK388.out 1).trans rfl
        have hcz78_2 : wr.cell? ⟨gb388, 2, none⟩ = some (.int .u64 0) := (blk_cell BK388.out 2).trans rfl
        have hcz78_3 : wr.cell? ⟨gb388, 3, none⟩ = some (.int .i64 x389003_1) := (blk_cell BK388.out 3).trans rfl
        have hcz78_4 : wr.cell? ⟨gb388, 4, none⟩ = some (.int .i64 x389004_1) := (blk_cell BK388.out 4).trans rfl
        have hfz78_0 := blk_frozen BK388.out 0
        have hfz78_1 := blk_frozen BK388.out 1
        have hfz78_2 := blk_frozen BK388.out 2
        have hfz78_3 := blk_frozen BK388.out 3
        have hfz78_4 := blk_frozen BK388.out 4
        obtain ⟨Ao79, co79, eo79⟩ := Kd.R_slice HO_389000.out
        subst eo79
        have hnb80 := NB387_386.out
        have hnc80 := NB386_387.out
        have hcz81_0 : wr.cell? ⟨gb387, 0, none⟩ = some (.slice none 0 0) := (blk_cell BK387.out 0).trans rfl
        have hcz81_1 : wr.cell? ⟨gb387, 1, none⟩ = some (.int .u64 0) := (blk_cell BK387.out 1).trans rfl
        have hcz81_2 : wr.cell? ⟨gb387, 2, none⟩ = some (.int .u64 0) := (blk_cell BK387.out 2).trans rfl
        have hcz81_3 : wr.cell? ⟨gb387, 3, none⟩ = some (.int .i64 0) := (blk_cell BK387.out 3).trans rfl
        have hcz81_4 : wr.cell? ⟨gb387, 4, none⟩ = some (.int .i64 0) := (blk_cell BK387.out 4).trans rfl
        have hfz81_0 := blk_frozen BK387.out 0
        have hfz81_1 := blk_frozen BK387.out 1
        have hfz81_2 := blk_frozen BK387.out 2
        have hfz81_3 := blk_frozen BK387.out 3
        have hfz81_4 := blk_frozen BK387.out 4
        go_wp2
        refine bodyPost_ret (results_cell_row rfl _ _ gb387 61 #[.slice Ao79 x389000_1.length co79, .int .u64 0, .int .u64 0, .int .i64 x389003_1, .int .i64 x389004_1] (0, 0) _ rfl (by (with_reducible repeat (first | refine blk_drewN ?_ _ | refine blk_drew ?_ | refine blk_alloc ?_ _)); refine blk_put (cs := #[.slice Ao79 x389000_1.length co79, .int .u64 0, .int .u64 0, .int .i64 x389003_1, .int .i64 0]) ?_ 4 _ rfl; (with_reducible repeat (first | refine blk_drewN ?_ _ | refine blk_drew ?_ | refine blk_alloc ?_ _)); refine blk_put (cs := #[.slice Ao79 x389000_1.length co79, .int .u64 0, .int .u64 0, .int .i64 0, .int .i64 0]) ?_ 3 _ rfl; (with_reducible repeat (first | refine blk_drewN ?_ _ | refine blk_drew ?_ | refine blk_alloc ?_ _)); refine blk_put (cs := #[.slice Ao79 x389000_1.length co79, .int .u64 0, .int .u64 0, .int .i64 0, .int .i64 0]) ?_ 2 _ rfl; (with_reducible repeat (first | refine blk_drewN ?_ _ | refine blk_drew ?_ | refine blk_alloc ?_ _)); refine blk_put (cs := #[.slice Ao79 x389000_1.length co79, .int .u64 0, .int .u64 0, .int .i64 0, .int .i64 0]) ?_ 1 _ rfl; (with_reducible repeat (first | refine blk_drewN ?_ _ | refine blk_drew ?_ | refine blk_alloc ?_ _)); refine blk_put (cs := #[.slice none 0 0, .int .u64 0, .int .u64 0, .int .i64 0, .int .i64 0]) ?_ 0 _ rfl; (with_reducible repeat (first | refine blk_drewN ?_ _ | refine blk_drew ?_ | refine blk_alloc ?_ _)); exact BK387.out) Tryd.underlying61 rfl (by kernel_rfl)) rfl ?_
        exact ⟨_, by first | rfl | (simp [errW_none, errW_some] <;> rfl) | (simp [*, errW_none, errW_some] <;> rfl), by (with_reducible repeat (first | apply Kd.R_alloc | apply Kd.R_drewN | apply Kd.R_drew)); exact Kd.R_mono (Kd.R_far (p := ⟨gb387, 4, none⟩) (Kd.R_far (p := ⟨gb387, 3, none⟩) (Kd.R_far (p := ⟨gb387, 2, none⟩) (Kd.R_far (p := ⟨gb387, 1, none⟩) (Kd.R_far (p := ⟨gb387, 0, none⟩) (Kd.R_types HO_389000.out BK387.out (by decide)) (fun _ hk => hk.2) (.slice Ao79 x389000_1.length co79)) (fun _ hk => hk.2) (.int .u64 0)) (fun _ hk => hk.2) (.int .u64 0)) (fun _ hk => hk.2) (.int .i64 x389003_1)) (fun _ hk => hk.2) (.int .i64 x389004_1)) (fun _ hk => trivial), by repeat (first | (with_reducible first | exact HB.out | apply below_alloc | apply pw_below_drewN | apply below_drew1 | refine below_set ?_ GE386.out | refine below_set ?_ GE387.out | refine below_set ?_ GE388.out) | exact HB.out)⟩
end Go.Proofs.YtielnphmcaecdaaDoor.PAll
