-- Written by a program of this session (wip/tools)
import Derived.Test.YtielnphmcaecdaaDoorQIMPAllx0
import Derived.Test.YtielnphmcaecdaaDoorQIMPAllx1
import Derived.Test.YtielnphmcaecdaaDoorQIMExtSame
namespace Go.Proofs.YtielnphmcaecdaaDoor.PAll
open Go.RowKit Go.Proofs.YtielnphmcaecdaaDoorW.PrintWords Go.Proofs.YtielnphmcaecdaaDoorW.PrintLast Go.Proofs.YtielnphmcaecdaaDoorW.PrintMore
attribute [local go_sem] max2_int min2_int max_two min_two max_three min_three max_four min_four   -- for this text's walks alone
set_option linter.unusedVariables false
set_option linter.unusedSimpArgs false
attribute [local go_sem high] eqA49
def spec_SameRange.f (k : Nat) (a0_0 : Int) (a0_1 : Int) (l0_2 : List (List Int)) (a1_0 : Int) (a1_1 : Int) (l1_2 : List (List Int)) : Option (Bool) := if a0_0 = a1_0 then (if a0_1 = a1_1 then ((spec_Same.f k l0_2 l1_2).bind fun t325 => (some t325)) else (some false)) else (some false)
theorem spec_SameRange.mono : ∀ a0 a1 a2 a3 a4 a5 k, LeO (spec_SameRange.f k a0 a1 a2 a3 a4 a5) (spec_SameRange.f (k + 1) a0 a1 a2 a3 a4 a5) := by
  intro a0 a1 a2 a3 a4 a5 k
  unfold spec_SameRange.f
  repeat' first
      | (with_reducible exact spec_Same.mono _ _ _)
      | (with_reducible exact LeO.refl _)
      | (with_reducible exact LeO.none _)
      | (with_reducible refine LeO.ite ?_ ?_)
      | (with_reducible refine LeO.bind ?_ (fun _ => ?_))
      | exact spec_Same.mono _ _ _
      | exact LeO.none _
      | refine LeO.ite ?_ ?_
      | refine LeO.bind ?_ (fun _ => ?_)
def spec_Leaves.f (a0_0 : Int) (a0_1 : Int) : Option (Int × Int) := if 0 ≤ a0_0 then (some (shl .u64 a0_1 a0_0, shl .u64 (IntKind.u64.wrap (a0_1 + 1)) a0_0)) else (none)
set_option maxHeartbeats 8000000 in
set_option maxRecDepth 100000 in
theorem spec_Leaves.calls (a0_0 : Int) (a0_1 : Int) (r1 : Int) (r2 : Int) (w : World) (h : spec_Leaves.f a0_0 a0_1 = some (r1, r2)) :
    Calls Tryd.prog 25 #[.agg #[.int .u64 a0_0, .int .u64 a0_1]] w fun e w' => e = .returned (.agg #[.int .u64 r1, .int .u64 r2]) ∧ Below w.heap.size w w' := by
  have hu49 := Tryd.underlying49
  have hu53 := Tryd.underlying53
  have HB := Aside0.mk (Below.refl w.heap.size w)
  have H : (if 0 ≤ a0_0 then (some (shl .u64 a0_1 a0_0, shl .u64 (IntKind.u64.wrap (a0_1 + 1)) a0_0)) else (none)) = some (r1, r2) := h
  clear h
  by_cases c2 : 0 ≤ a0_0
  · rw [if_pos c2] at H
    have c2b0 := eq_true c2
    have c2b1 : decide (0 ≤ a0_0) = true := decide_eq_true c2
    clear c2
    obtain ⟨ji3, hji3⟩ : ∃ j_ : Int, (shl .u64 a0_1 a0_0) = j_ := ⟨_, rfl⟩
    replace H : (some (ji3, shl .u64 (IntKind.u64.wrap (a0_1 + 1)) a0_0)) = some (r1, r2) := by first | (rw [hji3] at H; exact H) | (simp only [hji3] at H ⊢; exact H)
    have hji3_ : (IntKind.u64.wrap (a0_1 * 2 ^ min a0_0.toNat 64)) = ji3 := hji3
    have hji3z : a0_0 ≤ 64 → (IntKind.u64.wrap (a0_1 * 2 ^ a0_0.toNat)) = ji3 := shl_small hji3
    have c4b0 := eq_true (of_decide_eq_true (by first | (with_reducible assumption) | assumption) : 0 ≤ a0_0)
    obtain ⟨ji5, hji5⟩ : ∃ j_ : Int, (shl .u64 (IntKind.u64.wrap (a0_1 + 1)) a0_0) = j_ := ⟨_, rfl⟩
    replace H : (some (ji3, ji5)) = some (r1, r2) := by first | (rw [hji5] at H; exact H) | (simp only [hji5] at H ⊢; exact H)
    have hji5_ : (IntKind.u64.wrap ((IntKind.u64.wrap (a0_1 + 1)) * 2 ^ min a0_0.toNat 64)) = ji5 := hji5
    have hji5z : a0_0 ≤ 64 → (IntKind.u64.wrap ((IntKind.u64.wrap (a0_1 + 1)) * 2 ^ a0_0.toNat)) = ji5 := shl_small hji5
    simp only [Option.some.injEq, Prod.mk.injEq] at H
    obtain ⟨rfl, rfl⟩ := H
    go_enter Tryd.func25, Tryd.ntmps25
    go_wp2_with (first | ((with_reducible refine gate_dst (N := 1) rfl ?_); refine box_event ?hg (N := 1) ?hd (cs := #[.int .u64 a0_0, .int .u64 a0_1]) (t := 49) ?hr ?_; (case hd => rfl); (case hg => rfl); (case hr => first | (go_simp; done) | (go_simp; rfl)); intro gb330 hg w6 hbox hb; have n0_ := Aside0.mk (below_step (by repeat (first | (with_reducible first | exact HB.out | apply below_alloc | apply pw_below_drewN | apply below_drew1) | exact HB.out)) hb); have n1_ := Aside0.mk (hbox); have n2_ := Aside0.mk ((by rw [hg]; exact (below_size (by repeat (first | (with_reducible first | exact HB.out | apply below_alloc | apply pw_below_drewN | apply below_drew1) | exact HB.out))) : w.heap.size ≤ gb330)); have n3_ := Aside0.mk ((by rw [hg]; exact (below_size (by repeat (first | (with_reducible first | exact HB.out | apply below_alloc | apply pw_below_drewN | apply below_drew1) | exact HB.out))) : w.heap.size ≤ gb330)); clear HB; have HB := n0_; have BK330 := n1_; have GW330 := n2_; have GE330 := n3_; clear n0_ n1_ n2_ n3_; clear hb hbox hg) | ((with_reducible refine gate_dst (N := 2) rfl ?_); refine box_event ?hg (N := 2) ?hd (cs := #[.int .u64 0, .int .u64 0]) (t := 53) ?hr ?_; (case hd => rfl); (case hg => rfl); (case hr => first | (go_simp; done) | (go_simp; rfl)); intro gb331 hg w7 hbox hb; have n0_ := Aside0.mk (blk_below (g := gb330) (o := .cells #[.int .u64 a0_0, .int .u64 a0_1] 49 (0, 0)) (by (with_reducible repeat (first | refine blk_drewN ?_ _ | refine blk_drew ?_ | refine blk_alloc ?_ _)); exact BK330.out) hb); have n1_ := Aside0.mk (below_step (by repeat (first | (with_reducible first | exact HB.out | apply below_alloc | apply pw_below_drewN | apply below_drew1 | refine below_set ?_ GE330.out) | exact HB.out)) hb); have n2_ := Aside0.mk (hbox); have n3_ := Aside0.mk ((by rw [hg]; exact (below_size (by repeat (first | (with_reducible first | exact HB.out | apply below_alloc | apply pw_below_drewN | apply below_drew1 | refine below_set ?_ GE330.out) | exact HB.out))) : w.heap.size ≤ gb331)); have n4_ := Aside0.mk ((by rw [hg]; exact (below_size (by repeat (first | (with_reducible first | exact HB.out | apply below_alloc | apply pw_below_drewN | apply below_drew1 | refine below_set ?_ GE330.out) | exact HB.out))) : w.heap.size ≤ gb331)); have n5_ := Aside0.mk ((by rw [hg]; exact Nat.ne_of_lt (blk_lt (g := gb330) (o := .cells #[.int .u64 a0_0, .int .u64 a0_1] 49 (0, 0)) (by (with_reducible repeat (first | refine blk_drewN ?_ _ | refine blk_drew ?_ | refine blk_alloc ?_ _)); exact BK330.out)) : gb330 ≠ gb331)); have n6_ := Aside0.mk ((by rw [hg]; exact Nat.ne_of_gt (blk_lt (g := gb330) (o := .cells #[.int .u64 a0_0, .int .u64 a0_1] 49 (0, 0)) (by (with_reducible repeat (first | refine blk_drewN ?_ _ | refine blk_drew ?_ | refine blk_alloc ?_ _)); exact BK330.out)) : gb331 ≠ gb330)); clear BK330; clear HB; have BK330 := n0_; have HB := n1_; have BK331 := n2_; have GW331 := n3_; have GE331 := n4_; have NB330_331 := n5_; have NB331_330 := n6_; clear n0_ n1_ n2_ n3_ n4_ n5_ n6_; clear hb hbox hg; have hnb8 := NB330_331.out; have hnc8 := NB331_330.out; have hcz9_0 : w7.cell? ⟨gb330, 0, none⟩ = some (.int .u64 a0_0) := (blk_cell BK330.out 0).trans rfl; have hcz9_1 : w7.cell? ⟨gb330, 1, none⟩ = some (.int .u64 a0_1) := (blk_cell BK330.out 1).trans rfl; have hfz9_0 := blk_frozen BK330.out 0; have hfz9_1 := blk_frozen BK330.out 1; have hcz10_0 : w7.cell? ⟨gb331, 0, none⟩ = some (.int .u64 0) := (blk_cell BK331.out 0).trans rfl; have hcz10_1 : w7.cell? ⟨gb331, 1, none⟩ = some (.int .u64 0) := (blk_cell BK331.out 1).trans rfl; have hfz10_0 := blk_frozen BK331.out 0; have hfz10_1 := blk_frozen BK331.out 1))
    refine bodyPost_ret (results_cell_row rfl _ _ gb331 53 #[.int .u64 ji3, .int .u64 ji5] (0, 0) _ rfl (by (with_reducible repeat (first | refine blk_drewN ?_ _ | refine blk_drew ?_ | refine blk_alloc ?_ _)); refine blk_put (cs := #[.int .u64 ji3, .int .u64 0]) ?_ 1 _ rfl; (with_reducible repeat (first | refine blk_drewN ?_ _ | refine blk_drew ?_ | refine blk_alloc ?_ _)); refine blk_put (cs := #[.int .u64 0, .int .u64 0]) ?_ 0 _ rfl; (with_reducible repeat (first | refine blk_drewN ?_ _ | refine blk_drew ?_ | refine blk_alloc ?_ _)); exact BK331.out) Tryd.underlying53 rfl (by kernel_rfl)) rfl ?_
    exact ⟨by first | rfl | (simp [errW_none, errW_some] <;> rfl) | (simp only [← hji3, ← hji5]; first | rfl | (simp [errW_none, errW_some] <;> rfl)) | (simp [*, errW_none, errW_some] <;> rfl), by repeat (first | (with_reducible first | exact HB.out | apply below_alloc | apply pw_below_drewN | apply below_drew1 | refine below_set ?_ GE330.out | refine below_set ?_ GE331.out) | exact HB.out)⟩
  · rw [if_neg c2] at H
    exact absurd H (by simp)
end Go.Proofs.YtielnphmcaecdaaDoor.PAll
