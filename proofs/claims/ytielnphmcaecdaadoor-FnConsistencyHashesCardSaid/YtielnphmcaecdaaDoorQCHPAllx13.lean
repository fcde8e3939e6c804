-- Written by a program of this session (wip/tools)
import Derived.Test.YtielnphmcaecdaaDoorQCHPAllx0
namespace Go.Proofs.YtielnphmcaecdaaDoor.PAll
open Go.RowKit Go.Proofs.YtielnphmcaecdaaDoorW.PrintWords Go.Proofs.YtielnphmcaecdaaDoorW.PrintLast Go.Proofs.YtielnphmcaecdaaDoorW.PrintMore
attribute [local go_sem] max2_int min2_int max_two min_two max_three min_three max_four min_four   -- for this text's walks alone
set_option linter.unusedVariables false
set_option linter.unusedSimpArgs false
def spec_NodeOf.l0 : Nat → Int → Int → Int → Int → Option (Int × Int)
  | 0, _, _, _, _ => none
  | k + 1, x382000, x382001, x384000, x384001 => if 0 ≤ x384000 then (if (shr .u64 (IntKind.u64.wrap (x382001 - x382000)) x384000) > 1 then (spec_NodeOf.l0 k x382000 x382001 (IntKind.u64.wrap (x384000 + 1)) x384001) else (some (x384000, shr .u64 x382000 x384000))) else (none)
def spec_NodeOf.f (k : Nat) (a0_0 : Int) (a0_1 : Int) : Option (Int × Int) := spec_NodeOf.l0 k a0_0 a0_1 0 0
theorem spec_NodeOf.mono_l : ∀ k, (∀ y0 y1 y2 y3, LeO (spec_NodeOf.l0 k y0 y1 y2 y3) (spec_NodeOf.l0 (k + 1) y0 y1 y2 y3))
  | 0 => fun _ _ _ _ r h => by simp [spec_NodeOf.l0] at h
  | k + 1 => by
    have ih0 := spec_NodeOf.mono_l k
    · intro y0 y1 y2 y3
      unfold spec_NodeOf.l0
      repeat' first
      | (with_reducible exact ih0 _ _ _ _)
      | (with_reducible exact LeO.refl _)
      | (with_reducible exact LeO.none _)
      | (with_reducible refine LeO.ite ?_ ?_)
      | (with_reducible refine LeO.bind ?_ (fun _ => ?_))
      | exact ih0 _ _ _ _
      | exact LeO.none _
      | refine LeO.ite ?_ ?_
      | refine LeO.bind ?_ (fun _ => ?_)
theorem spec_NodeOf.mono : ∀ a0 a1 k, LeO (spec_NodeOf.f k a0 a1) (spec_NodeOf.f (k + 1) a0 a1) := by
  intro a0 a1 k
  have ih0 := spec_NodeOf.mono_l k
  unfold spec_NodeOf.f
  repeat' first
      | (with_reducible exact ih0 _ _ _ _)
      | (with_reducible exact LeO.refl _)
      | (with_reducible exact LeO.none _)
      | (with_reducible refine LeO.ite ?_ ?_)
      | (with_reducible refine LeO.bind ?_ (fun _ => ?_))
      | exact ih0 _ _ _ _
      | exact LeO.none _
      | refine LeO.ite ?_ ?_
      | refine LeO.bind ?_ (fun _ => ?_)
set_option maxHeartbeats 8000000 in
set_option maxRecDepth 100000 in
theorem spec_NodeOf.calls (k : Nat) (a0_0 : Int) (a0_1 : Int) (r1 : Int) (r2 : Int) (w : World) (h : spec_NodeOf.f k a0_0 a0_1 = some (r1, r2)) :
    Calls Tryd.prog 67 #[.agg #[.int .u64 a0_0, .int .u64 a0_1]] w fun e w' => e = .returned (.agg #[.int .u64 r1, .int .u64 r2]) ∧ Below w.heap.size w w' := by
  have hu53 := Tryd.underlying53
  have hu49 := Tryd.underlying49
  have HB := Aside0.mk (Below.refl w.heap.size w)
  have H : (spec_NodeOf.l0 k a0_0 a0_1 0 0) = some (r1, r2) := h
  clear h
  have H' := Aside0.mk H
  clear H
  go_enter Tryd.func67, Tryd.ntmps67
  go_wp2_with (first | ((with_reducible refine gate_dst (N := 1) rfl ?_); refine box_event ?hg (N := 1) ?hd (cs := #[.int .u64 a0_0, .int .u64 a0_1]) (t := 53) ?hr ?_; (case hd => rfl); (case hg => rfl); (case hr => first | (go_simp; done) | (go_simp; rfl)); intro gb381 hg w2 hbox hb; have n0_ := Aside0.mk (below_step (by repeat (first | (with_reducible first | exact HB.out | apply below_alloc | apply pw_below_drewN | apply below_drew1) | exact HB.out)) hb); have n1_ := Aside0.mk (hbox); have n2_ := Aside0.mk ((by rw [hg]; exact (below_size (by repeat (first | (with_reducible first | exact HB.out | apply below_alloc | apply pw_below_drewN | apply below_drew1) | exact HB.out))) : w.heap.size ≤ gb381)); have n3_ := Aside0.mk ((by rw [hg]; exact (below_size (by repeat (first | (with_reducible first | exact HB.out | apply below_alloc | apply pw_below_drewN | apply below_drew1) | exact HB.out))) : w.heap.size ≤ gb381)); clear HB; have HB := n0_; have BK381 := n1_; have GW381 := n2_; have GE381 := n3_; clear n0_ n1_ n2_ n3_; clear hb hbox hg) | ((with_reducible refine gate_dst (N := 2) rfl ?_); refine box_event ?hg (N := 2) ?hd (cs := #[.int .u64 0, .int .u64 0]) (t := 49) ?hr ?_; (case hd => rfl); (case hg => rfl); (case hr => first | (go_simp; done) | (go_simp; rfl)); intro gb382 hg w3 hbox hb; have n0_ := Aside0.mk (blk_below (g := gb381) (o := .cells #[.int .u64 a0_0, .int .u64 a0_1] 53 (0, 0)) (by (with_reducible repeat (first | refine blk_drewN ?_ _ | refine blk_drew ?_ | refine blk_alloc ?_ _)); exact BK381.out) hb); have n1_ := Aside0.mk (below_step (by repeat (first | (with_reducible first | exact HB.out | apply below_alloc | apply pw_below_drewN | apply below_drew1 | refine below_set ?_ GE381.out) | exact HB.out)) hb); have n2_ := Aside0.mk (hbox); have n3_ := Aside0.mk ((by rw [hg]; exact (below_size (by repeat (first | (with_reducible first | exact HB.out | apply below_alloc | apply pw_below_drewN | apply below_drew1 | refine below_set ?_ GE381.out) | exact HB.out))) : w.heap.size ≤ gb382)); have n4_ := Aside0.mk ((by rw [hg]; exact (below_size (by repeat (first | (with_reducible first | exact HB.out | apply below_alloc | apply pw_below_drewN | apply below_drew1 | refine below_set ?_ GE381.out) | exact HB.out))) : w.heap.size ≤ gb382)); have n5_ := Aside0.mk ((by rw [hg]; exact Nat.ne_of_lt (blk_lt (g := gb381) (o := .cells #[.int .u64 a0_0, .int .u64 a0_1] 53 (0, 0)) (by (with_reducible repeat (first | refine blk_drewN ?_ _ | refine blk_drew ?_ | refine blk_alloc ?_ _)); exact BK381.out)) : gb381 ≠ gb382)); have n6_ := Aside0.mk ((by rw [hg]; exact Nat.ne_of_gt (blk_lt (g := gb381) (o := .cells #[.int .u64 a0_0, .int .u64 a0_1] 53 (0, 0)) (by (with_reducible repeat (first | refine blk_drewN ?_ _ | refine blk_drew ?_ | refine blk_alloc ?_ _)); exact BK381.out)) : gb382 ≠ gb381)); clear BK381; clear HB; have BK381 := n0_; have HB := n1_; have BK382 := n2_; have GW382 := n3_; have GE382 := n4_; have NB381_382 := n5_; have NB382_381 := n6_; clear n0_ n1_ n2_ n3_ n4_ n5_ n6_; clear hb hbox hg) | ((with_reducible refine gate_dst (N := 3) rfl ?_); refine box_event ?hg (N := 3) ?hd (cs := #[.int .u64 0, .int .u64 0]) (t := 49) ?hr ?_; (case hd => rfl); (case hg => rfl); (case hr => first | (go_simp; done) | (go_simp; rfl)); intro gb383 hg w4 hbox hb; have n0_ := Aside0.mk (blk_below (g := gb381) (o := .cells #[.int .u64 a0_0, .int .u64 a0_1] 53 (0, 0)) (by (with_reducible repeat (first | refine blk_drewN ?_ _ | refine blk_drew ?_ | refine blk_alloc ?_ _)); exact BK381.out) hb); have n1_ := Aside0.mk (blk_below (g := gb382) (o := .cells #[.int .u64 0, .int .u64 0] 49 (0, 0)) (by (with_reducible repeat (first | refine blk_drewN ?_ _ | refine blk_drew ?_ | refine blk_alloc ?_ _)); exact BK382.out) hb); have n2_ := Aside0.mk (below_step (by repeat (first | (with_reducible first | exact HB.out | apply below_alloc | apply pw_below_drewN | apply below_drew1 | refine below_set ?_ GE381.out | refine below_set ?_ GE382.out) | exact HB.out)) hb); have n3_ := Aside0.mk (hbox); have n4_ := Aside0.mk ((by rw [hg]; exact (below_size (by repeat (first | (with_reducible first | exact HB.out | apply below_alloc | apply pw_below_drewN | apply below_drew1 | refine below_set ?_ GE381.out | refine below_set ?_ GE382.out) | exact HB.out))) : w.heap.size ≤ gb383)); have n5_ := Aside0.mk ((by rw [hg]; exact (below_size (by repeat (first | (with_reducible first | exact HB.out | apply below_alloc | apply pw_below_drewN | apply below_drew1 | refine below_set ?_ GE381.out | refine below_set ?_ GE382.out) | exact HB.out))) : w.heap.size ≤ gb383)); have n6_ := Aside0.mk ((by rw [hg]; exact Nat.ne_of_lt (blk_lt (g := gb381) (o := .cells #[.int .u64 a0_0, .int .u64 a0_1] 53 (0, 0)) (by (with_reducible repeat (first | refine blk_drewN ?_ _ | refine blk_drew ?_ | refine blk_alloc ?_ _)); exact BK381.out)) : gb381 ≠ gb383)); have n7_ := Aside0.mk ((by rw [hg]; exact Nat.ne_of_gt (blk_lt (g := gb381) (o := .cells #[.int .u64 a0_0, .int .u64 a0_1] 53 (0, 0)) (by (with_reducible repeat (first | refine blk_drewN ?_ _ | refine blk_drew ?_ | refine blk_alloc ?_ _)); exact BK381.out)) : gb383 ≠ gb381)); have n8_ := Aside0.mk ((by rw [hg]; exact Nat.ne_of_lt (blk_lt (g := gb382) (o := .cells #[.int .u64 0, .int .u64 0] 49 (0, 0)) (by (with_reducible repeat (first | refine blk_drewN ?_ _ | refine blk_drew ?_ | refine blk_alloc ?_ _)); exact BK382.out)) : gb382 ≠ gb383)); have n9_ := Aside0.mk ((by rw [hg]; exact Nat.ne_of_gt (blk_lt (g := gb382) (o := .cells #[.int .u64 0, .int .u64 0] 49 (0, 0)) (by (with_reducible repeat (first | refine blk_drewN ?_ _ | refine blk_drew ?_ | refine blk_alloc ?_ _)); exact BK382.out)) : gb383 ≠ gb382)); clear BK381; clear BK382; clear HB; have BK381 := n0_; have BK382 := n1_; have HB := n2_; have BK383 := n3_; have GW383 := n4_; have GE383 := n5_; have NB381_383 := n6_; have NB383_381 := n7_; have NB382_383 := n8_; have NB383_382 := n9_; clear n0_ n1_ n2_ n3_ n4_ n5_ n6_ n7_ n8_ n9_; clear hb hbox hg; have hnb5 := NB383_381.out; have hnc5 := NB381_383.out; have hnb6 := NB383_382.out; have hnc6 := NB382_383.out; have hcz7_0 : w4.cell? ⟨gb383, 0, none⟩ = some (.int .u64 0) := (blk_cell BK383.out 0).trans rfl; have hcz7_1 : w4.cell? ⟨gb383, 1, none⟩ = some (.int .u64 0) := (blk_cell BK383.out 1).trans rfl; have hfz7_0 := blk_frozen BK383.out 0; have hfz7_1 := blk_frozen BK383.out 1))
  try simp only [Act.put, List.setIfInBounds_toArray, List.set_cons_zero, List.set_cons_succ]
  go_loopg [] k (fun kq w' => ∃ (x384000_1 : Int), Aside0 (spec_NodeOf.l0 kq a0_0 a0_1 x384000_1 0 = some (r1, r2)) ∧ Aside0 (kq ≤ k) ∧ Aside0 (w'.heap[gb381]? = some (.cells #[.int .u64 a0_0, .int .u64 a0_1] 53 (0, 0))) ∧ Aside0 (w'.heap[gb382]? = some (.cells #[.int .u64 0, .int .u64 0] 49 (0, 0))) ∧ Aside0 (w'.heap[gb383]? = some (.cells #[.int .u64 x384000_1, .int .u64 0] 49 (0, 0))) ∧ Aside0 (Below w.heap.size w w'))
  case atStart => exact ⟨(0), H', ⟨Nat.le_refl _⟩, ⟨by (with_reducible repeat (first | refine blk_drewN ?_ _ | refine blk_drew ?_ | refine blk_alloc ?_ _)); refine blk_far ?_ NB381_383.out _; (with_reducible repeat (first | refine blk_drewN ?_ _ | refine blk_drew ?_ | refine blk_alloc ?_ _)); refine blk_far ?_ NB381_383.out _; (with_reducible repeat (first | refine blk_drewN ?_ _ | refine blk_drew ?_ | refine blk_alloc ?_ _)); exact BK381.out⟩, ⟨by (with_reducible repeat (first | refine blk_drewN ?_ _ | refine blk_drew ?_ | refine blk_alloc ?_ _)); refine blk_far ?_ NB382_383.out _; (with_reducible repeat (first | refine blk_drewN ?_ _ | refine blk_drew ?_ | refine blk_alloc ?_ _)); refine blk_far ?_ NB382_383.out _; (with_reducible repeat (first | refine blk_drewN ?_ _ | refine blk_drew ?_ | refine blk_alloc ?_ _)); exact BK382.out⟩, ⟨by (with_reducible repeat (first | refine blk_drewN ?_ _ | refine blk_drew ?_ | refine blk_alloc ?_ _)); refine blk_put (cs := #[.int .u64 0, .int .u64 0]) ?_ 1 _ rfl; (with_reducible repeat (first | refine blk_drewN ?_ _ | refine blk_drew ?_ | refine blk_alloc ?_ _)); refine blk_put (cs := #[.int .u64 0, .int .u64 0]) ?_ 0 _ rfl; (with_reducible repeat (first | refine blk_drewN ?_ _ | refine blk_drew ?_ | refine blk_alloc ?_ _)); exact BK383.out⟩, ⟨by repeat (first | (with_reducible first | exact HB.out | apply below_alloc | apply pw_below_drewN | apply below_drew1 | refine below_set ?_ GE381.out | refine below_set ?_ GE382.out | refine below_set ?_ GE383.out) | exact HB.out)⟩⟩
  case round =>
    clear H'
    try clear p2
    try clear c5
    try clear c6
    try clear hcz7_0
    try clear hcz7_1
    try clear hfz7_0
    try clear hfz7_1
    obtain ⟨x384000_1, HA, HK1, BK381, BK382, BK383, HB⟩ := hrel
    cases gk with
    | zero => exact absurd HA.out (by simp [spec_NodeOf.l0])
    | succ k1 =>
      have H := HA.out
      clear HA
      simp only [spec_NodeOf.l0] at H
      by_cases c8 : 0 ≤ x384000_1
      · rw [if_pos c8] at H
        have c8b0 := eq_true c8
        have c8b1 : decide (0 ≤ x384000_1) = true := decide_eq_true c8
        clear c8
        obtain ⟨ji9, hji9⟩ : ∃ j_ : Int, (shr .u64 (IntKind.u64.wrap (a0_1 - a0_0)) x384000_1) = j_ := ⟨_, rfl⟩
        replace H : (if (ji9) > 1 then (spec_NodeOf.l0 k1 a0_0 a0_1 (IntKind.u64.wrap (x384000_1 + 1)) 0) else (some (x384000_1, shr .u64 a0_0 x384000_1))) = some (r1, r2) := by first | (rw [hji9] at H; exact H) | (simp only [hji9] at H ⊢; exact H)
        have hji9_ : ((IntKind.u64.wrap (a0_1 - a0_0)) / 2 ^ min x384000_1.toNat 64) = ji9 := hji9
        have hji9z : x384000_1 ≤ 64 → ((IntKind.u64.wrap (a0_1 - a0_0)) / 2 ^ x384000_1.toNat) = ji9 := shr_small hji9
        by_cases c10 : (ji9) > 1
        · rw [if_pos c10] at H
          have c10b0 : decide (1 < (ji9)) = true := decide_eq_true c10
          clear c10
          have H' := Aside0.mk H
          clear H
          have hnb11 := NB381_382.out
          have hnc11 := NB382_381.out
          have hnb12 := NB381_383.out
          have hnc12 := NB383_381.out
          have hcz13_0 : wr.cell? ⟨gb381, 0, none⟩ = some (.int .u64 a0_0) := (blk_cell BK381.out 0).trans rfl
          have hcz13_1 : wr.cell? ⟨gb381, 1, none⟩ = some (.int .u64 a0_1) := (blk_cell BK381.out 1).trans rfl
          have hfz13_0 := blk_frozen BK381.out 0
          have hfz13_1 := blk_frozen BK381.out 1
          have hnb14 := NB383_382.out
          have hnc14 := NB382_383.out
          have hcz15_0 : wr.cell? ⟨gb383, 0, none⟩ = some (.int .u64 x384000_1) := (blk_cell BK383.out 0).trans rfl
          have hcz15_1 : wr.cell? ⟨gb383, 1, none⟩ = some (.int .u64 0) := (blk_cell BK383.out 1).trans rfl
          have hfz15_0 := blk_frozen BK383.out 0
          have hfz15_1 := blk_frozen BK383.out 1
          go_wp2
          go_roundg k1
          case measure => have := HK1.out; omega
          case rel => exact ⟨(IntKind.u64.wrap (x384000_1 + 1)), H', ⟨by have := HK1.out; omega⟩, ⟨by (with_reducible repeat (first | refine blk_drewN ?_ _ | refine blk_drew ?_ | refine blk_alloc ?_ _)); refine blk_far ?_ NB381_383.out _; (with_reducible repeat (first | refine blk_drewN ?_ _ | refine blk_drew ?_ | refine blk_alloc ?_ _)); exact BK381.out⟩, ⟨by (with_reducible repeat (first | refine blk_drewN ?_ _ | refine blk_drew ?_ | refine blk_alloc ?_ _)); refine blk_far ?_ NB382_383.out _; (with_reducible repeat (first | refine blk_drewN ?_ _ | refine blk_drew ?_ | refine blk_alloc ?_ _)); exact BK382.out⟩, ⟨by (with_reducible repeat (first | refine blk_drewN ?_ _ | refine blk_drew ?_ | refine blk_alloc ?_ _)); refine blk_put (cs := #[.int .u64 x384000_1, .int .u64 0]) ?_ 0 _ rfl; (with_reducible repeat (first | refine blk_drewN ?_ _ | refine blk_drew ?_ | refine blk_alloc ?_ _)); exact BK383.out⟩, ⟨by repeat (first | (with_reducible first | exact HB.out | apply below_alloc | apply pw_below_drewN | apply below_drew1 | refine below_set ?_ GE381.out | refine below_set ?_ GE382.out | refine below_set ?_ GE383.out) | exact HB.out)⟩⟩
        · rw [if_neg c10] at H
          have c10b0 : decide (1 < (ji9)) = false := decide_eq_false c10
          clear c10
          have c16b0 := eq_true (of_decide_eq_true (by first | (with_reducible assumption) | assumption) : 0 ≤ x384000_1)
          obtain ⟨ji17, hji17⟩ : ∃ j_ : Int, (shr .u64 a0_0 x384000_1) = j_ := ⟨_, rfl⟩
          replace H : (some (x384000_1, ji17)) = some (r1, r2) := by first | (rw [hji17] at H; exact H) | (simp only [hji17] at H ⊢; exact H)
          have hji17_ : (a0_0 / 2 ^ min x384000_1.toNat 64) = ji17 := hji17
          have hji17z : x384000_1 ≤ 64 → (a0_0 / 2 ^ x384000_1.toNat) = ji17 := shr_small hji17
          simp only [Option.some.injEq, Prod.mk.injEq] at H
          obtain ⟨rfl, rfl⟩ := H
          have hnb18 := NB381_382.out
          have hnc18 := NB382_381.out
          have hnb19 := NB381_383.out
          have hnc19 := NB383_381.out
          have hcz20_0 : wr.cell? ⟨gb381, 0, none⟩ = some (.int .u64 a0_0) := (blk_cell BK381.out 0).trans rfl
          have hcz20_1 : wr.cell? ⟨gb381, 1, none⟩ = some (.int .u64 a0_1) := (blk_cell BK381.out 1).trans rfl
          have hfz20_0 := blk_frozen BK381.out 0
          have hfz20_1 := blk_frozen BK381.out 1
          have hnb21 := NB383_382.out
          have hnc21 := NB382_383.out
          have hcz22_0 : wr.cell? ⟨gb383, 0, none⟩ = some (.int .u64 x384000_1) := (blk_cell BK383.out 0).trans rfl
          have hcz22_1 : wr.cell? ⟨gb383, 1, none⟩ = some (.int .u64 0) := (blk_cell BK383.out 1).trans rfl
          have hfz22_0 := blk_frozen BK383.out 0
          have hfz22_1 := blk_frozen BK383.out 1
          have hcz23_0 : wr.cell? ⟨gb382, 0, none⟩ = some (.int .u64 0) := (blk_cell BK382.out 0).trans rfl
          have hcz23_1 : wr.cell? ⟨gb382, 1, none⟩ = some (.int .u64 0) := (blk_cell BK382.out 1).trans rfl
          have hfz23_0 := blk_frozen BK382.out 0
          have hfz23_1 := blk_frozen BK382.out 1
          go_wp2
          refine bodyPost_ret (results_cell_row rfl _ _ gb382 49 #[.int .u64 x384000_1, .int .u64 ji17] (0, 0) _ rfl (by (with_reducible repeat (first | refine blk_drewN ?_ _ | refine blk_drew ?_ | refine blk_alloc ?_ _)); refine blk_put (cs := #[.int .u64 x384000_1, .int .u64 0]) ?_ 1 _ rfl; (with_reducible repeat (first | refine blk_drewN ?_ _ | refine blk_drew ?_ | refine blk_alloc ?_ _)); refine blk_put (cs := #[.int .u64 0, .int .u64 0]) ?_ 0 _ rfl; (with_reducible repeat (first | refine blk_drewN ?_ _ | refine blk_drew ?_ | refine blk_alloc ?_ _)); refine blk_far ?_ NB382_383.out _; (with_reducible repeat (first | refine blk_drewN ?_ _ | refine blk_drew ?_ | refine blk_alloc ?_ _)); exact BK382.out) Tryd.underlying49 rfl (by kernel_rfl)) rfl ?_
          exact ⟨by first | rfl | (simp [errW_none, errW_some] <;> rfl) | (simp only [← hji9, ← hji17]; first | rfl | (simp [errW_none, errW_some] <;> rfl)) | (simp [*, errW_none, errW_some] <;> rfl), by repeat (first | (with_reducible first | exact HB.out | apply below_alloc | apply pw_below_drewN | apply below_drew1 | refine below_set ?_ GE381.out | refine below_set ?_ GE382.out | refine below_set ?_ GE383.out) | exact HB.out)⟩
      · rw [if_neg c8] at H
        exact absurd H (by simp)
def spec_fork.l0 : Nat → Int → Int → Int → Option (Int × Int)
  | 0, _, _, _ => none
  | k + 1, x1, x385000, x385001 => if 0 ≤ x385000 then (if (x385001 / 2) = ((shr .u64 x1 x385000) / 2) then (some (x385000, shr .u64 x1 x385000)) else (spec_fork.l0 k x1 (IntKind.u64.wrap (x385000 + 1)) (x385001 / 2))) else (none)
def spec_fork.f (k : Nat) (a0_0 : Int) (a0_1 : Int) (a1 : Int) : Option (Int × Int) := spec_fork.l0 k a1 a0_0 a0_1
theorem spec_fork.mono_l : ∀ k, (∀ y0 y1 y2, LeO (spec_fork.l0 k y0 y1 y2) (spec_fork.l0 (k + 1) y0 y1 y2))
  | 0 => fun _ _ _ r h => by simp [spec_fork.l0] at h
  | k + 1 => by
    have ih0 := spec_fork.mono_l k
    · intro y0 y1 y2
      unfold spec_fork.l0
      repeat' first
      | (with_reducible exact ih0 _ _ _)
      | (with_reducible exact LeO.refl _)
      | (with_reducible exact LeO.none _)
      | (with_reducible refine LeO.ite ?_ ?_)
      | (with_reducible refine LeO.bind ?_ (fun _ => ?_))
      | exact ih0 _ _ _
      | exact LeO.none _
      | refine LeO.ite ?_ ?_
      | refine LeO.bind ?_ (fun _ => ?_)
theorem spec_fork.mono : ∀ a0 a1 a2 k, LeO (spec_fork.f k a0 a1 a2) (spec_fork.f (k + 1) a0 a1 a2) := by
  intro a0 a1 a2 k
  have ih0 := spec_fork.mono_l k
  unfold spec_fork.f
  repeat' first
      | (with_reducible exact ih0 _ _ _)
      | (with_reducible exact LeO.refl _)
      | (with_reducible exact LeO.none _)
      | (with_reducible refine LeO.ite ?_ ?_)
      | (with_reducible refine LeO.bind ?_ (fun _ => ?_))
      | exact ih0 _ _ _
      | exact LeO.none _
      | refine LeO.ite ?_ ?_
      | refine LeO.bind ?_ (fun _ => ?_)
set_option maxHeartbeats 8000000 in
set_option maxRecDepth 100000 in
theorem spec_fork.calls (k : Nat) (a0_0 : Int) (a0_1 : Int) (a1 : Int) (r1 : Int) (r2 : Int) (w : World) (h : spec_fork.f k a0_0 a0_1 a1 = some (r1, r2)) :
    Calls Tryd.prog 69 #[.agg #[.int .u64 a0_0, .int .u64 a0_1], .int .u64 a1] w fun e w' => e = .returned (.agg #[.int .u64 r1, .int .u64 r2]) ∧ Below w.heap.size w w' := by
  have hu49 := Tryd.underlying49
  have HB := Aside0.mk (Below.refl w.heap.size w)
  have H : (spec_fork.l0 k a1 a0_0 a0_1) = some (r1, r2) := h
  clear h
  have H' := Aside0.mk H
  clear H
  go_enter Tryd.func69, Tryd.ntmps69
  go_wp2_with (first | ((with_reducible refine gate_dst (N := 2) rfl ?_); refine box_event ?hg (N := 2) ?hd (cs := #[.int .u64 a0_0, .int .u64 a0_1]) (t := 49) ?hr ?_; (case hd => rfl); (case hg => rfl); (case hr => first | (go_simp; done) | (go_simp; rfl)); intro gb384 hg w3 hbox hb; have n0_ := Aside0.mk (below_step (by repeat (first | (with_reducible first | exact HB.out | apply below_alloc | apply pw_below_drewN | apply below_drew1) | exact HB.out)) hb); have n1_ := Aside0.mk (hbox); have n2_ := Aside0.mk ((by rw [hg]; exact (below_size (by repeat (first | (with_reducible first | exact HB.out | apply below_alloc | apply pw_below_drewN | apply below_drew1) | exact HB.out))) : w.heap.size ≤ gb384)); have n3_ := Aside0.mk ((by rw [hg]; exact (below_size (by repeat (first | (with_reducible first | exact HB.out | apply below_alloc | apply pw_below_drewN | apply below_drew1) | exact HB.out))) : w.heap.size ≤ gb384)); clear HB; have HB := n0_; have BK384 := n1_; have GW384 := n2_; have GE384 := n3_; clear n0_ n1_ n2_ n3_; clear hb hbox hg) | ((with_reducible refine gate_dst (N := 4) rfl ?_); refine box_event ?hg (N := 4) ?hd (cs := #[.int .u64 0, .int .u64 0]) (t := 49) ?hr ?_; (case hd => rfl); (case hg => rfl); (case hr => first | (go_simp; done) | (go_simp; rfl)); intro gb385 hg w4 hbox hb; have n0_ := Aside0.mk (blk_below (g := gb384) (o := .cells #[.int .u64 a0_0, .int .u64 a0_1] 49 (0, 0)) (by (with_reducible repeat (first | refine blk_drewN ?_ _ | refine blk_drew ?_ | refine blk_alloc ?_ _)); exact BK384.out) hb); have n1_ := Aside0.mk (below_step (by repeat (first | (with_reducible first | exact HB.out | apply below_alloc | apply pw_below_drewN | apply below_drew1 | refine below_set ?_ GE384.out) | exact HB.out)) hb); have n2_ := Aside0.mk (hbox); have n3_ := Aside0.mk ((by rw [hg]; exact (below_size (by repeat (first | (with_reducible first | exact HB.out | apply below_alloc | apply pw_below_drewN | apply below_drew1 | refine below_set ?_ GE384.out) | exact HB.out))) : w.heap.size ≤ gb385)); have n4_ := Aside0.mk ((by rw [hg]; exact (below_size (by repeat (first | (with_reducible first | exact HB.out | apply below_alloc | apply pw_below_drewN | apply below_drew1 | refine below_set ?_ GE384.out) | exact HB.out))) : w.heap.size ≤ gb385)); have n5_ := Aside0.mk ((by rw [hg]; exact Nat.ne_of_lt (blk_lt (g := gb384) (o := .cells #[.int .u64 a0_0, .int .u64 a0_1] 49 (0, 0)) (by (with_reducible repeat (first | refine blk_drewN ?_ _ | refine blk_drew ?_ | refine blk_alloc ?_ _)); exact BK384.out)) : gb384 ≠ gb385)); have n6_ := Aside0.mk ((by rw [hg]; exact Nat.ne_of_gt (blk_lt (g := gb384) (o := .cells #[.int .u64 a0_0, .int .u64 a0_1] 49 (0, 0)) (by (with_reducible repeat (first | refine blk_drewN ?_ _ | refine blk_drew ?_ | refine blk_alloc ?_ _)); exact BK384.out)) : gb385 ≠ gb384)); clear BK384; clear HB; have BK384 := n0_; have HB := n1_; have BK385 := n2_; have GW385 := n3_; have GE385 := n4_; have NB384_385 := n5_; have NB385_384 := n6_; clear n0_ n1_ n2_ n3_ n4_ n5_ n6_; clear hb hbox hg))
  try simp only [Act.put, List.setIfInBounds_toArray, List.set_cons_zero, List.set_cons_succ]
  go_loopg [] k (fun kq w' => ∃ (x385000_1 : Int) (x385001_1 : Int), Aside0 (spec_fork.l0 kq a1 x385000_1 x385001_1 = some (r1, r2)) ∧ Aside0 (kq ≤ k) ∧ Aside0 (w'.heap[gb384]? = some (.cells #[.int .u64 x385000_1, .int .u64 x385001_1] 49 (0, 0))) ∧ Aside0 (w'.heap[gb385]? = some (.cells #[.int .u64 0, .int .u64 0] 49 (0, 0))) ∧ Aside0 (Below w.heap.size w w'))
  case atStart => exact ⟨(a0_0), (a0_1), H', ⟨Nat.le_refl _⟩, ⟨by (with_reducible repeat (first | refine blk_drewN ?_ _ | refine blk_drew ?_ | refine blk_alloc ?_ _)); exact BK384.out⟩, ⟨by (with_reducible repeat (first | refine blk_drewN ?_ _ | refine blk_drew ?_ | refine blk_alloc ?_ _)); exact BK385.out⟩, ⟨by repeat (first | (with_reducible first | exact HB.out | apply below_alloc | apply pw_below_drewN | apply below_drew1 | refine below_set ?_ GE384.out | refine below_set ?_ GE385.out) | exact HB.out)⟩⟩
  case round =>
    clear H'
    try clear p2
    obtain ⟨x385000_1, x385001_1, HA, HK1, BK384, BK385, HB⟩ := hrel
    cases gk with
    | zero => exact absurd HA.out (by simp [spec_fork.l0])
    | succ k1 =>
      have H := HA.out
      clear HA
      simp only [spec_fork.l0] at H
      by_cases c5 : 0 ≤ x385000_1
      · rw [if_pos c5] at H
        have c5b0 := eq_true c5
        have c5b1 : decide (0 ≤ x385000_1) = true := decide_eq_true c5
        clear c5
        obtain ⟨ji6, hji6⟩ : ∃ j_ : Int, (shr .u64 a1 x385000_1) = j_ := ⟨_, rfl⟩
        replace H : (if (x385001_1 / 2) = ((ji6) / 2) then (some (x385000_1, ji6)) else (spec_fork.l0 k1 a1 (IntKind.u64.wrap (x385000_1 + 1)) (x385001_1 / 2))) = some (r1, r2) := by first | (rw [hji6] at H; exact H) | (simp only [hji6] at H ⊢; exact H)
        have hji6_ : (a1 / 2 ^ min x385000_1.toNat 64) = ji6 := hji6
        have hji6z : x385000_1 ≤ 64 → (a1 / 2 ^ x385000_1.toNat) = ji6 := shr_small hji6
        by_cases c7 : (x385001_1 / 2) = ((ji6) / 2)
        · rw [if_pos c7] at H
          have c7b0 : ((x385001_1 / 2) == ((ji6) / 2)) = true := beq_iff_eq.mpr c7
          have c7b1 : ((x385001_1 / 2) != ((ji6) / 2)) = false := bne_eq_false_iff_eq.mpr c7
          clear c7
          have c8b0 := eq_true (of_decide_eq_true (by first | (with_reducible assumption) | assumption) : 0 ≤ x385000_1)
          simp only [Option.some.injEq, Prod.mk.injEq] at H
          obtain ⟨rfl, rfl⟩ := H
          have hnb9 := NB384_385.out
          have hnc9 := NB385_384.out
          have hcz10_0 : wr.cell? ⟨gb384, 0, none⟩ = some (.int .u64 x385000_1) := (blk_cell BK384.out 0).trans rfl
          have hcz10_1 : wr.cell? ⟨gb384, 1, none⟩ = some (.int .u64 x385001_1) := (blk_cell BK384.out 1).trans rfl
          have hfz10_0 := blk_frozen BK384.out 0
          have hfz10_1 := blk_frozen BK384.out 1
          have hcz11_0 : wr.cell? ⟨gb385, 0, none⟩ = some (.int .u64 0) := (blk_cell BK385.out 0).trans rfl
          have hcz11_1 : wr.cell? ⟨gb385, 1, none⟩ = some (.int .u64 0) := (blk_cell BK385.out 1).trans rfl
          have hfz11_0 := blk_frozen BK385.out 0
          have hfz11_1 := blk_frozen BK385.out 1
          go_wp2
          refine bodyPost_ret (results_cell_row rfl _ _ gb385 49 #[.int .u64 x385000_1, .int .u64 ji6] (0, 0) _ rfl (by (with_reducible repeat (first | refine blk_drewN ?_ _ | refine blk_drew ?_ | refine blk_alloc ?_ _)); refine blk_put (cs := #[.int .u64 x385000_1, .int .u64 0]) ?_ 1 _ rfl; (with_reducible repeat (first | refine blk_drewN ?_ _ | refine blk_drew ?_ | refine blk_alloc ?_ _)); refine blk_put (cs := #[.int .u64 0, .int .u64 0]) ?_ 0 _ rfl; (with_reducible repeat (first | refine blk_drewN ?_ _ | refine blk_drew ?_ | refine blk_alloc ?_ _)); exact BK385.out) Tryd.underlying49 rfl (by kernel_rfl)) rfl ?_
          exact ⟨by first | rfl | (simp [errW_none, errW_some] <;> rfl) | (simp only [← hji6]; first | rfl | (simp [errW_none, errW_some] <;> rfl)) | (simp [*, errW_none, errW_some] <;> rfl), by repeat (first | (with_reducible first | exact HB.out | apply below_alloc | apply pw_below_drewN | apply below_drew1 | refine below_set ?_ GE384.out | refine below_set ?_ GE385.out) | exact HB.out)⟩
        · rw [if_neg c7] at H
          have c7b0 : ((x385001_1 / 2) == ((ji6) / 2)) = false := beq_eq_false_iff_ne.mpr c7
          have c7b1 : ((x385001_1 / 2) != ((ji6) / 2)) = true := bne_iff_ne.mpr c7
          have H' := Aside0.mk H
          clear H
          have hnb12 := NB384_385.out
          have hnc12 := NB385_384.out
          have hcz13_0 : wr.cell? ⟨gb384, 0, none⟩ = some (.int .u64 x385000_1) := (blk_cell BK384.out 0).trans rfl
          have hcz13_1 : wr.cell? ⟨gb384, 1, none⟩ = some (.int .u64 x385001_1) := (blk_cell BK384.out 1).trans rfl
          have hfz13_0 := blk_frozen BK384.out 0
          have hfz13_1 := blk_frozen BK384.out 1
          go_wp2
          go_roundg k1
          case measure => have := HK1.out; omega
          case rel => exact ⟨(IntKind.u64.wrap (x385000_1 + 1)), (x385001_1 / 2), H', ⟨by have := HK1.out; omega⟩, ⟨by (with_reducible repeat (first | refine blk_drewN ?_ _ | refine blk_drew ?_ | refine blk_alloc ?_ _)); refine blk_put (cs := #[.int .u64 (IntKind.u64.wrap (x385000_1 + 1)), .int .u64 x385001_1]) ?_ 1 _ rfl; (with_reducible repeat (first | refine blk_drewN ?_ _ | refine blk_drew ?_ | refine blk_alloc ?_ _)); refine blk_put (cs := #[.int .u64 x385000_1, .int .u64 x385001_1]) ?_ 0 _ rfl; (with_reducible repeat (first | refine blk_drewN ?_ _ | refine blk_drew ?_ | refine blk_alloc ?_ _)); exact BK384.out⟩, ⟨by (with_reducible repeat (first | refine blk_drewN ?_ _ | refine blk_drew ?_ | refine blk_alloc ?_ _)); refine blk_far ?_ NB385_384.out _; (with_reducible repeat (first | refine blk_drewN ?_ _ | refine blk_drew ?_ | refine blk_alloc ?_ _)); refine blk_far ?_ NB385_384.out _; (with_reducible repeat (first | refine blk_drewN ?_ _ | refine blk_drew ?_ | refine blk_alloc ?_ _)); exact BK385.out⟩, ⟨by repeat (first | (with_reducible first | exact HB.out | apply below_alloc | apply pw_below_drewN | apply below_drew1 | refine below_set ?_ GE384.out | refine below_set ?_ GE385.out) | exact HB.out)⟩⟩
      · rw [if_neg c5] at H
        exact absurd H (by simp)
end Go.Proofs.YtielnphmcaecdaaDoor.PAll
