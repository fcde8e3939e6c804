-- Written by a program of this session (wip/tools)
import Derived.Test.YthfgegaakfgjkaaDoorPAllx0
import Derived.Test.YthfgegaakfgjkaaDoorPAllx1
import Derived.Test.YthfgegaakfgjkaaDoorPAllx4
import Derived.Test.YthfgegaakfgjkaaDoorPAllx6
import Derived.Test.YthfgegaakfgjkaaDoorExtInc
namespace Go.Proofs.YthfgegaakfgjkaaDoor.PAll
open Go.RowKit Go.Proofs.YthfgegaakfgjkaaDoorW.PrintWords Go.Proofs.YthfgegaakfgjkaaDoorW.PrintLast Go.Proofs.YthfgegaakfgjkaaDoorW.PrintMore
attribute [local go_sem] max2_int min2_int max_two min_two max_three min_three max_four min_four   -- for this text's walks alone
set_option linter.unusedVariables false
set_option linter.unusedSimpArgs false

attribute [local go_sem high] eqA36
/-! ### spec_HasNode: function 16 -/
def spec_HasNode.l0 : Nat → List (S36) → Int → Int → Int → Int → Option (Bool)
  | 0, _, _, _, _, _ => none
  | k + 1, x7, x8, x9, x308000, x308001 => if x9 < x8 then (if 0 ≤ x9 then (if x9 < (x7.length : Int) then (if (((rd_T36 x7 x9).f0) == x308000 && (((rd_T36 x7 x9).f1) == x308001)) = true then (some true) else (spec_HasNode.l0 k x7 x8 (wrap64 (x9 + 1)) x308000 x308001)) else (none)) else (none)) else (some false)
def spec_HasNode.f (k : Nat) (l0 : List (S36)) (a1_0 : Int) (a1_1 : Int) : Option (Bool) := spec_HasNode.l0 k l0 (l0.length : Int) 0 a1_0 a1_1
theorem spec_HasNode.mono_l : ∀ k, (∀ y0 y1 y2 y3 y4, LeO (spec_HasNode.l0 k y0 y1 y2 y3 y4) (spec_HasNode.l0 (k + 1) y0 y1 y2 y3 y4))
  | 0 => fun _ _ _ _ _ r h => by simp [spec_HasNode.l0] at h
  | k + 1 => by
    have ih0 := spec_HasNode.mono_l k
    · intro y0 y1 y2 y3 y4
      unfold spec_HasNode.l0
      repeat' first
      | (with_reducible exact ih0 _ _ _ _ _)
      | (with_reducible exact LeO.refl _)
      | (with_reducible exact LeO.none _)
      | (with_reducible refine LeO.ite ?_ ?_)
      | (with_reducible refine LeO.bind ?_ (fun _ => ?_))
      | exact ih0 _ _ _ _ _
      | exact LeO.none _
      | refine LeO.ite ?_ ?_
      | refine LeO.bind ?_ (fun _ => ?_)
theorem spec_HasNode.mono : ∀ a0 a1 a2 k, LeO (spec_HasNode.f k a0 a1 a2) (spec_HasNode.f (k + 1) a0 a1 a2) := by
  intro a0 a1 a2 k
  have ih0 := spec_HasNode.mono_l k
  unfold spec_HasNode.f
  repeat' first
      | (with_reducible exact ih0 _ _ _ _ _)
      | (with_reducible exact LeO.refl _)
      | (with_reducible exact LeO.none _)
      | (with_reducible refine LeO.ite ?_ ?_)
      | (with_reducible refine LeO.bind ?_ (fun _ => ?_))
      | exact ih0 _ _ _ _ _
      | exact LeO.none _
      | refine LeO.ite ?_ ?_
      | refine LeO.bind ?_ (fun _ => ?_)
set_option maxHeartbeats 8000000 in
set_option maxRecDepth 100000 in
theorem spec_HasNode.calls (k : Nat) (A0 : Option Addr) (c0 : Nat) (l0 : List (S36)) (a1_0 : Int) (a1_1 : Int) (r : Bool) (w : World) (hr0 : Kd.C k36 w A0 l0.length l0) (hc0 : l0.length ≤ c0) (h : spec_HasNode.f k l0 a1_0 a1_1 = some r) :
    Calls Tryd.prog 16 #[.slice A0 l0.length c0, .agg #[.int .u64 a1_0, .int .u64 a1_1]] w fun e w' => e = .returned (.bool r) ∧ Below w.heap.size w w' := by
  have hu36 := Tryd.underlying36
  have HR0 := Aside0.mk hr0
  have HC0 := Aside0.mk hc0
  clear hr0 hc0
  have HB := Aside0.mk (Below.refl w.heap.size w)
  have H : (spec_HasNode.l0 k l0 (l0.length : Int) 0 a1_0 a1_1) = some r := h
  clear h
  have H' := Aside0.mk H
  clear H
  go_enter Tryd.func16, Tryd.ntmps16
  go_wp2_with (first | ((with_reducible refine gate_dst (N := 3) rfl ?_); refine box_event ?hg (N := 3) ?hd (cs := #[.int .u64 a1_0, .int .u64 a1_1]) (t := 36) ?hr ?_; (case hd => rfl); (case hg => rfl); (case hr => first | (go_simp; done) | (go_simp; rfl)); intro gb307 hg w3 hbox hb; have n0_ := Aside0.mk (below_step (by repeat (first | (with_reducible first | exact HB.out | apply below_alloc | apply pw_below_drewN | apply below_drew1) | exact HB.out)) hb); have n1_ := Aside0.mk (hbox); have n2_ := Aside0.mk ((by rw [hg]; exact (below_size (by repeat (first | (with_reducible first | exact HB.out | apply below_alloc | apply pw_below_drewN | apply below_drew1) | exact HB.out))) : w.heap.size ≤ gb307)); have n3_ := Aside0.mk ((by rw [hg]; exact (below_size (by repeat (first | (with_reducible first | exact HB.out | apply below_alloc | apply pw_below_drewN | apply below_drew1) | exact HB.out))) : w.heap.size ≤ gb307)); clear HB; have HB := n0_; have BK307 := n1_; have GW307 := n2_; have GE307 := n3_; clear n0_ n1_ n2_ n3_; clear hb hbox hg))
  try simp only [Act.put, List.setIfInBounds_toArray, List.set_cons_zero, List.set_cons_succ]
  go_loopg [9] k (fun kq v9 w' => ∃ (x9_1 : Int), v9 = .int .i64 x9_1 ∧ Aside0 (spec_HasNode.l0 kq l0 (l0.length : Int) x9_1 a1_0 a1_1 = some r) ∧ Aside0 (kq ≤ k) ∧ Aside0 (w'.heap[gb307]? = some (.cells #[.int .u64 a1_0, .int .u64 a1_1] 36 (0, 0))) ∧ Aside0 (Below w.heap.size w w'))
  case atStart => exact ⟨(0), (by first | rfl | (simp; done) | (simp [*]; done)), H', ⟨Nat.le_refl _⟩, ⟨by (with_reducible repeat (first | refine blk_drewN ?_ _ | refine blk_drew ?_ | refine blk_alloc ?_ _)); exact BK307.out⟩, ⟨by repeat (first | (with_reducible first | exact HB.out | apply below_alloc | apply pw_below_drewN | apply below_drew1 | refine below_set ?_ GE307.out) | exact HB.out)⟩⟩
  case round =>
    clear H'
    try clear c1
    try clear p2
    obtain ⟨x9_1, rfl, HA, HK1, BK307, HB⟩ := hrel
    cases gk with
    | zero => exact absurd HA.out (by simp [spec_HasNode.l0])
    | succ k1 =>
      have H := HA.out
      clear HA
      simp only [spec_HasNode.l0] at H
      by_cases c4 : x9_1 < (l0.length : Int)
      · rw [if_pos c4] at H
        have c4b0 : decide (x9_1 < (l0.length : Int)) = true := decide_eq_true c4
        clear c4
        by_cases c5 : 0 ≤ x9_1
        · rw [if_pos c5] at H
          have c5b0 : decide (0 ≤ x9_1) = true := decide_eq_true c5
          clear c5
          by_cases c6 : x9_1 < (l0.length : Int)
          · rw [if_pos c6] at H
            have c6b0 : decide (x9_1 < (l0.length : Int)) = true := decide_eq_true c6
            clear c6
            by_cases c7 : (((rd_T36 l0 x9_1).f0) == a1_0 && (((rd_T36 l0 x9_1).f1) == a1_1)) = true
            · rw [if_pos c7] at H
              have c7b0 : (((rd_T36 l0 x9_1).f0) == a1_0 && (((rd_T36 l0 x9_1).f1) == a1_1)) = true := c7
              (try (have c7b1 : decide (((rd_T36 l0 x9_1).f0) = a1_0 && (((rd_T36 l0 x9_1).f1) == a1_1)) = true := by simpa using c7))
              (try (have c7b2 : (((rd_T36 l0 x9_1).f0) == a1_0 && (((rd_T36 l0 x9_1).f1) == a1_1)) = true := by simpa using c7))
              clear c7
              obtain rfl := Option.some.inj H
              have p308 : 0 ≤ (x9_1 : Int) := of_decide_eq_true (by first | (with_reducible assumption) | assumption)
              have q308 : x9_1 < (l0.length : Int) := of_decide_eq_true (by first | (with_reducible assumption) | assumption)
              obtain ⟨ad308, e308, hx308_0, hx308_1⟩ := at_T36 HR0.out x9_1 p308 q308
              cases e308
              replace hx308_0 := (HB.out.cell (World.block_lt_of_cell? w _ hx308_0)).trans hx308_0
              replace hx308_1 := (HB.out.cell (World.block_lt_of_cell? w _ hx308_1)).trans hx308_1
              replace p308 := eq_true p308
              replace q308 := eq_true q308
              go_wp2_with (first | ((with_reducible refine gate_dst (N := 6) rfl ?_); refine box_event ?hg (N := 6) ?hd (cs := #[.int .u64 0, .int .u64 0]) (t := 36) ?hr ?_; (case hd => rfl); (case hg => rfl); (case hr => first | (go_simp; done) | (go_simp; rfl)); intro gb309 hg w8 hbox hb; have n0_ := Aside0.mk (blk_below (g := gb307) (o := .cells #[.int .u64 a1_0, .int .u64 a1_1] 36 (0, 0)) (by (with_reducible repeat (first | refine blk_drewN ?_ _ | refine blk_drew ?_ | refine blk_alloc ?_ _)); exact BK307.out) hb); have n1_ := Aside0.mk (below_step (by repeat (first | (with_reducible first | exact HB.out | apply below_alloc | apply pw_below_drewN | apply below_drew1 | refine below_set ?_ GE307.out) | exact HB.out)) hb); have n2_ := Aside0.mk (hbox); have n3_ := Aside0.mk ((by rw [hg]; exact (below_size (by repeat (first | (with_reducible first | exact HB.out | apply below_alloc | apply pw_below_drewN | apply below_drew1 | refine below_set ?_ GE307.out) | exact HB.out))) : w.heap.size ≤ gb309)); have n4_ := Aside0.mk ((by rw [hg]; exact (below_size (by repeat (first | (with_reducible first | exact HB.out | apply below_alloc | apply pw_below_drewN | apply below_drew1 | refine below_set ?_ GE307.out) | exact HB.out))) : w.heap.size ≤ gb309)); have n5_ := Aside0.mk ((by rw [hg]; exact Nat.ne_of_lt (blk_lt (g := gb307) (o := .cells #[.int .u64 a1_0, .int .u64 a1_1] 36 (0, 0)) (by (with_reducible repeat (first | refine blk_drewN ?_ _ | refine blk_drew ?_ | refine blk_alloc ?_ _)); exact BK307.out)) : gb307 ≠ gb309)); have n6_ := Aside0.mk ((by rw [hg]; exact Nat.ne_of_gt (blk_lt (g := gb307) (o := .cells #[.int .u64 a1_0, .int .u64 a1_1] 36 (0, 0)) (by (with_reducible repeat (first | refine blk_drewN ?_ _ | refine blk_drew ?_ | refine blk_alloc ?_ _)); exact BK307.out)) : gb309 ≠ gb307)); clear BK307; clear HB; have BK307 := n0_; have HB := n1_; have BK309 := n2_; have GW309 := n3_; have GE309 := n4_; have NB307_309 := n5_; have NB309_307 := n6_; clear n0_ n1_ n2_ n3_ n4_ n5_ n6_; clear hb hbox hg; have hnb9 := NB309_307.out; have hnc9 := NB307_309.out; have hcz10_0 : w8.cell? ⟨gb309, 0, none⟩ = some (.int .u64 0) := (blk_cell BK309.out 0).trans rfl; have hcz10_1 : w8.cell? ⟨gb309, 1, none⟩ = some (.int .u64 0) := (blk_cell BK309.out 1).trans rfl; have hfz10_0 := blk_frozen BK309.out 0; have hfz10_1 := blk_frozen BK309.out 1; have hcz11_0 : w8.cell? ⟨gb307, 0, none⟩ = some (.int .u64 a1_0) := (blk_cell BK307.out 0).trans rfl; have hcz11_1 : w8.cell? ⟨gb307, 1, none⟩ = some (.int .u64 a1_1) := (blk_cell BK307.out 1).trans rfl; have hfz11_0 := blk_frozen BK307.out 0; have hfz11_1 := blk_frozen BK307.out 1))
              go_ret
              exact ⟨by first | rfl | (simp [errW_none, errW_some] <;> rfl) | (simp [*, errW_none, errW_some] <;> rfl), by repeat (first | (with_reducible first | exact HB.out | apply below_alloc | apply pw_below_drewN | apply below_drew1 | refine below_set ?_ GE307.out | refine below_set ?_ GE309.out) | exact HB.out)⟩
            · rw [if_neg c7] at H
              have c7b0 : (((rd_T36 l0 x9_1).f0) == a1_0 && (((rd_T36 l0 x9_1).f1) == a1_1)) = false := by simpa using c7
              (try (have c7b1 : decide (((rd_T36 l0 x9_1).f0) = a1_0 && (((rd_T36 l0 x9_1).f1) == a1_1)) = false := by simpa using c7))
              (try (have c7b2 : (((rd_T36 l0 x9_1).f0) == a1_0 && (((rd_T36 l0 x9_1).f1) == a1_1)) = false := by simpa using c7))
              (try (have c7b3 : ¬ (((rd_T36 l0 x9_1).f0) = a1_0 && (((rd_T36 l0 x9_1).f1) == a1_1)) := by simpa using c7))
              clear c7
              have H' := Aside0.mk H
              clear H
              have p308 : 0 ≤ (x9_1 : Int) := of_decide_eq_true (by first | (with_reducible assumption) | assumption)
              have q308 : x9_1 < (l0.length : Int) := of_decide_eq_true (by first | (with_reducible assumption) | assumption)
              obtain ⟨ad308, e308, hx308_0, hx308_1⟩ := at_T36 HR0.out x9_1 p308 q308
              cases e308
              replace hx308_0 := (HB.out.cell (World.block_lt_of_cell? w _ hx308_0)).trans hx308_0
              replace hx308_1 := (HB.out.cell (World.block_lt_of_cell? w _ hx308_1)).trans hx308_1
              replace p308 := eq_true p308
              replace q308 := eq_true q308
              go_wp2_with (first | ((with_reducible refine gate_dst (N := 6) rfl ?_); refine box_event ?hg (N := 6) ?hd (cs := #[.int .u64 0, .int .u64 0]) (t := 36) ?hr ?_; (case hd => rfl); (case hg => rfl); (case hr => first | (go_simp; done) | (go_simp; rfl)); intro gb309 hg w12 hbox hb; have n0_ := Aside0.mk (blk_below (g := gb307) (o := .cells #[.int .u64 a1_0, .int .u64 a1_1] 36 (0, 0)) (by (with_reducible repeat (first | refine blk_drewN ?_ _ | refine blk_drew ?_ | refine blk_alloc ?_ _)); exact BK307.out) hb); have n1_ := Aside0.mk (below_step (by repeat (first | (with_reducible first | exact HB.out | apply below_alloc | apply pw_below_drewN | apply below_drew1 | refine below_set ?_ GE307.out) | exact HB.out)) hb); have n2_ := Aside0.mk (hbox); have n3_ := Aside0.mk ((by rw [hg]; exact (below_size (by repeat (first | (with_reducible first | exact HB.out | apply below_alloc | apply pw_below_drewN | apply below_drew1 | refine below_set ?_ GE307.out) | exact HB.out))) : w.heap.size ≤ gb309)); have n4_ := Aside0.mk ((by rw [hg]; exact (below_size (by repeat (first | (with_reducible first | exact HB.out | apply below_alloc | apply pw_below_drewN | apply below_drew1 | refine below_set ?_ GE307.out) | exact HB.out))) : w.heap.size ≤ gb309)); have n5_ := Aside0.mk ((by rw [hg]; exact Nat.ne_of_lt (blk_lt (g := gb307) (o := .cells #[.int .u64 a1_0, .int .u64 a1_1] 36 (0, 0)) (by (with_reducible repeat (first | refine blk_drewN ?_ _ | refine blk_drew ?_ | refine blk_alloc ?_ _)); exact BK307.out)) : gb307 ≠ gb309)); have n6_ := Aside0.mk ((by rw [hg]; exact Nat.ne_of_gt (blk_lt (g := gb307) (o := .cells #[.int .u64 a1_0, .int .u64 a1_1] 36 (0, 0)) (by (with_reducible repeat (first | refine blk_drewN ?_ _ | refine blk_drew ?_ | refine blk_alloc ?_ _)); exact BK307.out)) : gb309 ≠ gb307)); clear BK307; clear HB; have BK307 := n0_; have HB := n1_; have BK309 := n2_; have GW309 := n3_; have GE309 := n4_; have NB307_309 := n5_; have NB309_307 := n6_; clear n0_ n1_ n2_ n3_ n4_ n5_ n6_; clear hb hbox hg; have hnb13 := NB309_307.out; have hnc13 := NB307_309.out; have hcz14_0 : w12.cell? ⟨gb309, 0, none⟩ = some (.int .u64 0) := (blk_cell BK309.out 0).trans rfl; have hcz14_1 : w12.cell? ⟨gb309, 1, none⟩ = some (.int .u64 0) := (blk_cell BK309.out 1).trans rfl; have hfz14_0 := blk_frozen BK309.out 0; have hfz14_1 := blk_frozen BK309.out 1; have hcz15_0 : w12.cell? ⟨gb307, 0, none⟩ = some (.int .u64 a1_0) := (blk_cell BK307.out 0).trans rfl; have hcz15_1 : w12.cell? ⟨gb307, 1, none⟩ = some (.int .u64 a1_1) := (blk_cell BK307.out 1).trans rfl; have hfz15_0 := blk_frozen BK307.out 0; have hfz15_1 := blk_frozen BK307.out 1))
              go_roundg k1
              case measure => have := HK1.out; omega
              case rel => exact ⟨(wrap64 (x9_1 + 1)), (by first | rfl | (simp; done) | (simp [*]; done)), H', ⟨by have := HK1.out; omega⟩, ⟨by (with_reducible repeat (first | refine blk_drewN ?_ _ | refine blk_drew ?_ | refine blk_alloc ?_ _)); refine blk_far ?_ NB307_309.out _; (with_reducible repeat (first | refine blk_drewN ?_ _ | refine blk_drew ?_ | refine blk_alloc ?_ _)); refine blk_far ?_ NB307_309.out _; (with_reducible repeat (first | refine blk_drewN ?_ _ | refine blk_drew ?_ | refine blk_alloc ?_ _)); exact BK307.out⟩, ⟨by repeat (first | (with_reducible first | exact HB.out | apply below_alloc | apply pw_below_drewN | apply below_drew1 | refine below_set ?_ GE307.out | refine below_set ?_ GE309.out) | exact HB.out)⟩⟩
          · rw [if_neg c6] at H
            exact absurd H (by simp)
        · rw [if_neg c5] at H
          exact absurd H (by simp)
      · rw [if_neg c4] at H
        have c4b0 : decide (x9_1 < (l0.length : Int)) = false := decide_eq_false c4
        clear c4
        obtain rfl := Option.some.inj H
        go_wp2
        go_ret
        exact ⟨by first | rfl | (simp [errW_none, errW_some] <;> rfl) | (simp [*, errW_none, errW_some] <;> rfl), by repeat (first | (with_reducible first | exact HB.out | apply below_alloc | apply pw_below_drewN | apply below_drew1 | refine below_set ?_ GE307.out) | exact HB.out)⟩

/-! ### laws_FnInclusionIsTwoRanges: function 6 -/
mutual
def laws_FnInclusionIsTwoRanges.l0 : Nat → Bool → List (S36) → List (S36) → Int → Int → List (S36) → Int → Int → Int → Int → Option (Bool)
  | 0, _, _, _, _, _, _, _, _, _, _ => none
  | k + 1, x6, x7, x28, x29, x30, x319000, x319001, x319002, x319003, x319004 => if x30 < x29 then (if 0 ≤ x30 then (if x30 < (x28.length : Int) then ((spec_HasNode.f k x7 ((rd_T36 x28 x30).f0) ((rd_T36 x28 x30).f1)).bind fun t327 => (if t327 = true then (laws_FnInclusionIsTwoRanges.l0 k x6 x7 x28 x29 (wrap64 (x30 + 1)) x319000 x319001 x319002 x319003 x319004) else (none))) else (none)) else (none)) else (laws_FnInclusionIsTwoRanges.l1 k x6 x7 x7 (x7.length : Int) 0 x319000 x319001 x319002 x319003 x319004)
def laws_FnInclusionIsTwoRanges.l1 : Nat → Bool → List (S36) → List (S36) → Int → Int → List (S36) → Int → Int → Int → Int → Option (Bool)
  | 0, _, _, _, _, _, _, _, _, _, _ => none
  | k + 1, x6, x7, x39, x40, x41, x319000, x319001, x319002, x319003, x319004 => if x41 < x40 then (if 0 ≤ x41 then (if x41 < (x39.length : Int) then ((spec_HasNode.f k x319000 ((rd_T36 x39 x41).f0) ((rd_T36 x39 x41).f1)).bind fun t330 => (if t330 = true then (laws_FnInclusionIsTwoRanges.l1 k x6 x7 x39 x40 (wrap64 (x41 + 1)) x319000 x319001 x319002 x319003 x319004) else (none))) else (none)) else (none)) else (if x6 = true then (some ((x319000.length : Int) == (x7.length : Int))) else (none))
end
def laws_FnInclusionIsTwoRanges.f (k : Nat) (a0 : Int) (a1 : Int) : Option (Bool) := if a0 ≥ a1 then (some true) else ((impl_Inclusion.f k a0 a1).bind fun bt310 => ((impl_RangeNodes.f k 0 a0 ([] : List (S36))).bind fun t319 => ((impl_RangeNodes.f k (IntKind.u64.wrap (a0 + 1)) a1 t319).bind fun t322 => (laws_FnInclusionIsTwoRanges.l0 k bt310.2.2.2.2.2 t322 bt310.1 (bt310.1.length : Int) 0 bt310.1 bt310.2.1 bt310.2.2.1 bt310.2.2.2.1 bt310.2.2.2.2.1))))
theorem laws_FnInclusionIsTwoRanges.mono_l : ∀ k, (∀ y0 y1 y2 y3 y4 y5 y6 y7 y8 y9, LeO (laws_FnInclusionIsTwoRanges.l0 k y0 y1 y2 y3 y4 y5 y6 y7 y8 y9) (laws_FnInclusionIsTwoRanges.l0 (k + 1) y0 y1 y2 y3 y4 y5 y6 y7 y8 y9)) ∧ (∀ y0 y1 y2 y3 y4 y5 y6 y7 y8 y9, LeO (laws_FnInclusionIsTwoRanges.l1 k y0 y1 y2 y3 y4 y5 y6 y7 y8 y9) (laws_FnInclusionIsTwoRanges.l1 (k + 1) y0 y1 y2 y3 y4 y5 y6 y7 y8 y9))
  | 0 => ⟨fun _ _ _ _ _ _ _ _ _ _ r h => by simp [laws_FnInclusionIsTwoRanges.l0] at h, fun _ _ _ _ _ _ _ _ _ _ r h => by simp [laws_FnInclusionIsTwoRanges.l1] at h⟩
  | k + 1 => by
    obtain ⟨ih0, ih1⟩ := laws_FnInclusionIsTwoRanges.mono_l k
    refine ⟨?_, ?_⟩
    · intro y0 y1 y2 y3 y4 y5 y6 y7 y8 y9
      unfold laws_FnInclusionIsTwoRanges.l0
      repeat' first
      | (with_reducible exact ih0 _ _ _ _ _ _ _ _ _ _)
      | (with_reducible exact ih1 _ _ _ _ _ _ _ _ _ _)
      | (with_reducible exact impl_Inclusion.mono _ _ _)
      | (with_reducible exact impl_RangeNodes.mono _ _ _ _)
      | (with_reducible exact spec_HasNode.mono _ _ _ _)
      | (with_reducible exact LeO.refl _)
      | (with_reducible exact LeO.none _)
      | (with_reducible refine LeO.ite ?_ ?_)
      | (with_reducible refine LeO.bind ?_ (fun _ => ?_))
      | exact ih0 _ _ _ _ _ _ _ _ _ _
      | exact ih1 _ _ _ _ _ _ _ _ _ _
      | exact impl_Inclusion.mono _ _ _
      | exact impl_RangeNodes.mono _ _ _ _
      | exact spec_HasNode.mono _ _ _ _
      | exact LeO.none _
      | refine LeO.ite ?_ ?_
      | refine LeO.bind ?_ (fun _ => ?_)
    · intro y0 y1 y2 y3 y4 y5 y6 y7 y8 y9
      unfold laws_FnInclusionIsTwoRanges.l1
      repeat' first
      | (with_reducible exact ih0 _ _ _ _ _ _ _ _ _ _)
      | (with_reducible exact ih1 _ _ _ _ _ _ _ _ _ _)
      | (with_reducible exact impl_Inclusion.mono _ _ _)
      | (with_reducible exact impl_RangeNodes.mono _ _ _ _)
      | (with_reducible exact spec_HasNode.mono _ _ _ _)
      | (with_reducible exact LeO.refl _)
      | (with_reducible exact LeO.none _)
      | (with_reducible refine LeO.ite ?_ ?_)
      | (with_reducible refine LeO.bind ?_ (fun _ => ?_))
      | exact ih0 _ _ _ _ _ _ _ _ _ _
      | exact ih1 _ _ _ _ _ _ _ _ _ _
      | exact impl_Inclusion.mono _ _ _
      | exact impl_RangeNodes.mono _ _ _ _
      | exact spec_HasNode.mono _ _ _ _
      | exact LeO.none _
      | refine LeO.ite ?_ ?_
      | refine LeO.bind ?_ (fun _ => ?_)
theorem laws_FnInclusionIsTwoRanges.mono : ∀ a0 a1 k, LeO (laws_FnInclusionIsTwoRanges.f k a0 a1) (laws_FnInclusionIsTwoRanges.f (k + 1) a0 a1) := by
  intro a0 a1 k
  obtain ⟨ih0, ih1⟩ := laws_FnInclusionIsTwoRanges.mono_l k
  unfold laws_FnInclusionIsTwoRanges.f
  repeat' first
      | (with_reducible exact ih0 _ _ _ _ _ _ _ _ _ _)
      | (with_reducible exact ih1 _ _ _ _ _ _ _ _ _ _)
      | (with_reducible exact impl_Inclusion.mono _ _ _)
      | (with_reducible exact impl_RangeNodes.mono _ _ _ _)
      | (with_reducible exact spec_HasNode.mono _ _ _ _)
      | (with_reducible exact LeO.refl _)
      | (with_reducible exact LeO.none _)
      | (with_reducible refine LeO.ite ?_ ?_)
      | (with_reducible refine LeO.bind ?_ (fun _ => ?_))
      | exact ih0 _ _ _ _ _ _ _ _ _ _
      | exact ih1 _ _ _ _ _ _ _ _ _ _
      | exact impl_Inclusion.mono _ _ _
      | exact impl_RangeNodes.mono _ _ _ _
      | exact spec_HasNode.mono _ _ _ _
      | exact LeO.none _
      | refine LeO.ite ?_ ?_
      | refine LeO.bind ?_ (fun _ => ?_)
set_option maxHeartbeats 8000000 in
set_option maxRecDepth 100000 in
theorem laws_FnInclusionIsTwoRanges.calls (k : Nat) (a0 : Int) (a1 : Int) (r : Bool) (w : World) (hG : Glob w) (h : laws_FnInclusionIsTwoRanges.f k a0 a1 = some r) :
    Calls Tryd.prog 6 #[.int .u64 a0, .int .u64 a1] w fun e w' => e = .returned (.bool r) ∧ Below w.heap.size w w' := by
  have hu38 := Tryd.underlying38
  have hu36 := Tryd.underlying36
  have HB := Aside0.mk (Below.refl w.heap.size w)
  have H : (if a0 ≥ a1 then (some true) else ((impl_Inclusion.f k a0 a1).bind fun bt310 => ((impl_RangeNodes.f k 0 a0 ([] : List (S36))).bind fun t319 => ((impl_RangeNodes.f k (IntKind.u64.wrap (a0 + 1)) a1 t319).bind fun t322 => (laws_FnInclusionIsTwoRanges.l0 k bt310.2.2.2.2.2 t322 bt310.1 (bt310.1.length : Int) 0 bt310.1 bt310.2.1 bt310.2.2.1 bt310.2.2.2.1 bt310.2.2.2.2.1))))) = some r := h
  clear h
  by_cases c3 : a0 ≥ a1
  · rw [if_pos c3] at H
    have c3b0 : decide (a1 ≤ a0) = true := decide_eq_true c3
    clear c3
    obtain rfl := Option.some.inj H
    go_enter Tryd.func6, Tryd.ntmps6
    go_wp2
    go_ret
    exact ⟨by first | rfl | (simp [errW_none, errW_some] <;> rfl) | (simp [*, errW_none, errW_some] <;> rfl), by repeat (first | (with_reducible first | exact HB.out | apply below_alloc | apply pw_below_drewN | apply below_drew1) | exact HB.out)⟩
  · rw [if_neg c3] at H
    have c3b0 : decide (a1 ≤ a0) = false := decide_eq_false c3
    clear c3
    replace H := Option.bind_eq_some_iff.mp H
    obtain ⟨⟨t310, t313, t314, t315, t316, t317⟩, A40, H⟩ := H
    replace H : ((impl_RangeNodes.f k 0 a0 ([] : List (S36))).bind fun t319 => ((impl_RangeNodes.f k (IntKind.u64.wrap (a0 + 1)) a1 t319).bind fun t322 => (laws_FnInclusionIsTwoRanges.l0 k t317 t322 t310 (t310.length : Int) 0 t310 t313 t314 t315 t316))) = some r := H
    have A4 := Aside0.mk A40
    clear A40
    replace H := Option.bind_eq_some_iff.mp H
    obtain ⟨t319, A50, H⟩ := H
    replace H : ((impl_RangeNodes.f k (IntKind.u64.wrap (a0 + 1)) a1 t319).bind fun t322 => (laws_FnInclusionIsTwoRanges.l0 k t317 t322 t310 (t310.length : Int) 0 t310 t313 t314 t315 t316)) = some r := H
    have A5 := Aside0.mk A50
    clear A50
    replace H := Option.bind_eq_some_iff.mp H
    obtain ⟨t322, A60, H⟩ := H
    replace H : (laws_FnInclusionIsTwoRanges.l0 k t317 t322 t310 (t310.length : Int) 0 t310 t313 t314 t315 t316) = some r := H
    have A6 := Aside0.mk A60
    clear A60
    have H' := Aside0.mk H
    clear H
    go_enter Tryd.func6, Tryd.ntmps6
    go_wp2_with (first | ((with_reducible refine gate_callee (f := 13) rfl ?_); refine goesL_ (some 18) rfl rfl Tryd.func13 (by kernel_rfl) rfl #[.int .u64 a0, .int .u64 a1] rfl (by (try simp only [List.map_toArray, List.map_cons, List.map_nil]); first | done | rfl | (simp only [List.length_drop, List.length_take]; rfl)) ?_; (with_reducible refine (impl_Inclusion.calls k a0 a1 t310 t313 t314 t315 t316 t317 _ ?side1 A4.out).mono ?_); (case side1 => exact Glob.below hG (by repeat (first | (with_reducible first | exact HB.out | apply below_alloc | apply pw_below_drewN | apply below_drew1) | exact HB.out))); rintro e w7 ⟨v311, rfl, ho0, hb⟩; refine ⟨_, rfl, ?_⟩; have n0_ := Aside0.mk (Kd.R_lower ho0 (below_size (by repeat (first | (with_reducible first | exact HB.out | apply below_alloc | apply pw_below_drewN | apply below_drew1) | exact HB.out)))); have n1_ := Aside0.mk (below_step (by repeat (first | (with_reducible first | exact HB.out | apply below_alloc | apply pw_below_drewN | apply below_drew1) | exact HB.out)) hb); clear HB; have HO312 := n0_; have HB := n1_; clear n0_ n1_; (try clear hb); (try clear hb2); (try clear hk); (try clear hi); (try clear ho0)) | ((with_reducible refine gate_dst (N := 5) rfl ?_); (try (refine gate_guard (by rfl) ?_; dsimp only)); refine box_event ?hg (N := 5) ?hd (cs := #[.slice none 0 0, .int .u64 0, .int .u64 0, .int .i64 0, .int .i64 0]) (t := 38) ?hr ?_; (case hd => rfl); (case hg => rfl); (case hr => first | (go_simp; done) | (go_simp; rfl)); intro gb318 hg w8 hbox hb; have n0_ := Aside0.mk (Kd.R_below (by (with_reducible repeat (first | apply Kd.R_alloc | apply Kd.R_drewN | apply Kd.R_drew)); exact HO312.out) hb); have n1_ := Aside0.mk (below_step (by repeat (first | (with_reducible first | exact HB.out | apply below_alloc | apply pw_below_drewN | apply below_drew1) | exact HB.out)) hb); have n2_ := Aside0.mk (hbox); have n3_ := Aside0.mk ((by rw [hg]; exact (below_size (by repeat (first | (with_reducible first | exact HB.out | apply below_alloc | apply pw_below_drewN | apply below_drew1) | exact HB.out))) : w.heap.size ≤ gb318)); have n4_ := Aside0.mk ((by rw [hg]; exact (below_size (by repeat (first | (with_reducible first | exact HB.out | apply below_alloc | apply pw_below_drewN | apply below_drew1) | exact HB.out))) : w.heap.size ≤ gb318)); clear HO312; clear HB; have HO312 := n0_; have HB := n1_; have BK318 := n2_; have GW318 := n3_; have GE318 := n4_; clear n0_ n1_ n2_ n3_ n4_; clear hb hbox hg; obtain ⟨Ao9, co9, eo9⟩ := Kd.R_slice HO312.out; subst eo9; have hcz10_0 : w8.cell? ⟨gb318, 0, none⟩ = some (.slice none 0 0) := (blk_cell BK318.out 0).trans rfl; have hcz10_1 : w8.cell? ⟨gb318, 1, none⟩ = some (.int .u64 0) := (blk_cell BK318.out 1).trans rfl; have hcz10_2 : w8.cell? ⟨gb318, 2, none⟩ = some (.int .u64 0) := (blk_cell BK318.out 2).trans rfl; have hcz10_3 : w8.cell? ⟨gb318, 3, none⟩ = some (.int .i64 0) := (blk_cell BK318.out 3).trans rfl; have hcz10_4 : w8.cell? ⟨gb318, 4, none⟩ = some (.int .i64 0) := (blk_cell BK318.out 4).trans rfl; have hfz10_0 := blk_frozen BK318.out 0; have hfz10_1 := blk_frozen BK318.out 1; have hfz10_2 := blk_frozen BK318.out 2; have hfz10_3 := blk_frozen BK318.out 3; have hfz10_4 := blk_frozen BK318.out 4) | ((with_reducible refine gate_callee (f := 10) rfl ?_); refine goesL_ (some 25) rfl rfl Tryd.func10 (by kernel_rfl) rfl #[.int .u64 0, .int .u64 a0, .slice none 0 0] rfl (by (try simp only [List.map_toArray, List.map_cons, List.map_nil]); first | done | rfl | (simp only [List.length_drop, List.length_take]; rfl)) ?_; (refine (impl_RangeNodes.calls k 0 a0 _ _ ([] : List (S36)) t319 _ ?side3 ?side1 ?side2 A5.out).mono ?_); (case side1 => exact Kd.C_nil _ _); (case side2 => exact Nat.le_refl _); (case side3 => exact Glob.below hG (by repeat (first | (with_reducible first | exact HB.out | apply below_alloc | apply pw_below_drewN | apply below_drew1 | refine below_set ?_ GE318.out) | exact HB.out))); rintro e w11 ⟨v320, rfl, ho0, hb⟩; refine ⟨_, rfl, ?_⟩; have n0_ := Aside0.mk (Kd.R_elder' (by (with_reducible repeat (first | apply Kd.R_alloc | apply Kd.R_drewN | apply Kd.R_drew)); exact (Kd.R_mono (Kd.R_far (p := ⟨gb318, 4, none⟩) (Kd.R_far (p := ⟨gb318, 3, none⟩) (Kd.R_far (p := ⟨gb318, 2, none⟩) (Kd.R_far (p := ⟨gb318, 1, none⟩) (Kd.R_far (p := ⟨gb318, 0, none⟩) (Kd.R_types HO312.out BK318.out (by decide)) (fun _ hk => hk.2) (.slice Ao9 t310.length co9)) (fun _ hk => hk.2) (.int .u64 t313)) (fun _ hk => hk.2) (.int .u64 t314)) (fun _ hk => hk.2) (.int .i64 t315)) (fun _ hk => hk.2) (.int .i64 t316)) (fun _ h_ => h_.1))) (Kd.R_base ho0) hb); have n1_ := Aside0.mk (Kd.R_lower (Kd.R_new' ho0 (Kd.R_lt (by (with_reducible repeat (first | apply Kd.R_alloc | apply Kd.R_drewN | apply Kd.R_drew)); exact (Kd.R_mono (Kd.R_far (p := ⟨gb318, 4, none⟩) (Kd.R_far (p := ⟨gb318, 3, none⟩) (Kd.R_far (p := ⟨gb318, 2, none⟩) (Kd.R_far (p := ⟨gb318, 1, none⟩) (Kd.R_far (p := ⟨gb318, 0, none⟩) (Kd.R_types HO312.out BK318.out (by decide)) (fun _ hk => hk.2) (.slice Ao9 t310.length co9)) (fun _ hk => hk.2) (.int .u64 t313)) (fun _ hk => hk.2) (.int .u64 t314)) (fun _ hk => hk.2) (.int .i64 t315)) (fun _ hk => hk.2) (.int .i64 t316)) (fun _ h_ => h_.1))))) (below_size (by repeat (first | (with_reducible first | exact HB.out | apply below_alloc | apply pw_below_drewN | apply below_drew1 | refine below_set ?_ GE318.out) | exact HB.out)))); have n2_ := Aside0.mk (blk_below (g := gb318) (o := .cells #[.slice Ao9 t310.length co9, .int .u64 t313, .int .u64 t314, .int .i64 t315, .int .i64 t316] 38 (0, 0)) (by (with_reducible repeat (first | refine blk_drewN ?_ _ | refine blk_drew ?_ | refine blk_alloc ?_ _)); refine blk_put (cs := #[.slice Ao9 t310.length co9, .int .u64 t313, .int .u64 t314, .int .i64 t315, .int .i64 0]) ?_ 4 _ rfl; (with_reducible repeat (first | refine blk_drewN ?_ _ | refine blk_drew ?_ | refine blk_alloc ?_ _)); refine blk_put (cs := #[.slice Ao9 t310.length co9, .int .u64 t313, .int .u64 t314, .int .i64 0, .int .i64 0]) ?_ 3 _ rfl; (with_reducible repeat (first | refine blk_drewN ?_ _ | refine blk_drew ?_ | refine blk_alloc ?_ _)); refine blk_put (cs := #[.slice Ao9 t310.length co9, .int .u64 t313, .int .u64 0, .int .i64 0, .int .i64 0]) ?_ 2 _ rfl; (with_reducible repeat (first | refine blk_drewN ?_ _ | refine blk_drew ?_ | refine blk_alloc ?_ _)); refine blk_put (cs := #[.slice Ao9 t310.length co9, .int .u64 0, .int .u64 0, .int .i64 0, .int .i64 0]) ?_ 1 _ rfl; (with_reducible repeat (first | refine blk_drewN ?_ _ | refine blk_drew ?_ | refine blk_alloc ?_ _)); refine blk_put (cs := #[.slice none 0 0, .int .u64 0, .int .u64 0, .int .i64 0, .int .i64 0]) ?_ 0 _ rfl; (with_reducible repeat (first | refine blk_drewN ?_ _ | refine blk_drew ?_ | refine blk_alloc ?_ _)); exact BK318.out) hb); have n3_ := Aside0.mk (below_step (by repeat (first | (with_reducible first | exact HB.out | apply below_alloc | apply pw_below_drewN | apply below_drew1 | refine below_set ?_ GE318.out) | exact HB.out)) hb); clear HO312; clear BK318; clear HB; have HO312 := n0_; have HO321 := n1_; have BK318 := n2_; have HB := n3_; clear n0_ n1_ n2_ n3_; (try clear hb); (try clear hb2); (try clear hk); (try clear hi); (try clear ho0); obtain ⟨Ao12, co12, eo12⟩ := Kd.R_slice HO321.out; subst eo12) | ((with_reducible refine gate_callee (f := 10) rfl ?_); refine goesL_ (some 26) rfl rfl Tryd.func10 (by kernel_rfl) rfl #[.int .u64 (IntKind.u64.wrap (a0 + 1)), .int .u64 a1, .slice Ao12 t319.length co12] rfl (by (try simp only [List.map_toArray, List.map_cons, List.map_nil]); first | done | rfl | (simp only [List.length_drop, List.length_take]; rfl)) ?_; (with_reducible refine (impl_RangeNodes.calls k (IntKind.u64.wrap (a0 + 1)) a1 _ _ t319 t322 _ ?side3 ?side1 ?side2 A6.out).mono ?_); (case side1 => repeat (first | exact (Kd.R_reads' HO321.out).2.2 | (with_reducible refine Kd.C_alloc ?_ _) | (with_reducible refine Kd.C_drewN ?_ _) | (with_reducible refine Kd.C_drew ?_))); (case side2 => exact (Kd.R_reads' HO321.out).2.1); (case side3 => exact Glob.below hG (by repeat (first | (with_reducible first | exact HB.out | apply below_alloc | apply pw_below_drewN | apply below_drew1 | refine below_set ?_ GE318.out) | exact HB.out))); rintro e w13 ⟨v323, rfl, ho0, hb⟩; refine ⟨_, rfl, ?_⟩; have n0_ := Aside0.mk (Kd.R_elder' (by (with_reducible repeat (first | apply Kd.R_alloc | apply Kd.R_drewN | apply Kd.R_drew)); exact HO312.out) (Kd.R_base ho0) hb); have n1_ := Aside0.mk (Kd.R_elder' (by (with_reducible repeat (first | apply Kd.R_alloc | apply Kd.R_drewN | apply Kd.R_drew)); exact HO321.out) (Kd.R_base ho0) hb); have n2_ := Aside0.mk (Kd.R_lower (Kd.R_new' (Kd.R_new' ho0 (Kd.R_lt (by (with_reducible repeat (first | apply Kd.R_alloc | apply Kd.R_drewN | apply Kd.R_drew)); exact HO312.out))) (Kd.R_lt (by (with_reducible repeat (first | apply Kd.R_alloc | apply Kd.R_drewN | apply Kd.R_drew)); exact HO321.out))) (below_size (by repeat (first | (with_reducible first | exact HB.out | apply below_alloc | apply pw_below_drewN | apply below_drew1 | refine below_set ?_ GE318.out) | exact HB.out)))); have n3_ := Aside0.mk (blk_below (g := gb318) (o := .cells #[.slice Ao9 t310.length co9, .int .u64 t313, .int .u64 t314, .int .i64 t315, .int .i64 t316] 38 (0, 0)) (by (with_reducible repeat (first | refine blk_drewN ?_ _ | refine blk_drew ?_ | refine blk_alloc ?_ _)); exact BK318.out) hb); have n4_ := Aside0.mk (below_step (by repeat (first | (with_reducible first | exact HB.out | apply below_alloc | apply pw_below_drewN | apply below_drew1 | refine below_set ?_ GE318.out) | exact HB.out)) hb); clear HO312; clear HO321; clear BK318; clear HB; have HO312 := n0_; have HO321 := n1_; have HO324 := n2_; have BK318 := n3_; have HB := n4_; clear n0_ n1_ n2_ n3_ n4_; (try clear hb); (try clear hb2); (try clear hk); (try clear hi); (try clear ho0); have hcz14_0 : w13.cell? ⟨gb318, 0, none⟩ = some (.slice Ao9 t310.length co9) := (blk_cell BK318.out 0).trans rfl; have hcz14_1 : w13.cell? ⟨gb318, 1, none⟩ = some (.int .u64 t313) := (blk_cell BK318.out 1).trans rfl; have hcz14_2 : w13.cell? ⟨gb318, 2, none⟩ = some (.int .u64 t314) := (blk_cell BK318.out 2).trans rfl; have hcz14_3 : w13.cell? ⟨gb318, 3, none⟩ = some (.int .i64 t315) := (blk_cell BK318.out 3).trans rfl; have hcz14_4 : w13.cell? ⟨gb318, 4, none⟩ = some (.int .i64 t316) := (blk_cell BK318.out 4).trans rfl; have hfz14_0 := blk_frozen BK318.out 0; have hfz14_1 := blk_frozen BK318.out 1; have hfz14_2 := blk_frozen BK318.out 2; have hfz14_3 := blk_frozen BK318.out 3; have hfz14_4 := blk_frozen BK318.out 4))
    try simp only [Act.put, List.setIfInBounds_toArray, List.set_cons_zero, List.set_cons_succ]
    go_loopg [30] k (fun kq v30 w' => ∃ (x30_1 : Int), v30 = .int .i64 x30_1 ∧ Aside0 (laws_FnInclusionIsTwoRanges.l0 kq t317 t322 t310 (t310.length : Int) x30_1 t310 t313 t314 t315 t316 = some r) ∧ Aside0 (kq ≤ k) ∧ Aside0 (Kd.R k36 36 w' w.heap.size (fun k_ => some k_ ≠ ((.slice Ao9 t310.length co9) : Value).ownBlock ∧ some k_ ≠ ((.slice Ao9 t310.length co9) : Value).ownBlock) v323 t322) ∧ Aside0 (Kd.R k36 36 w' w.heap.size (fun k_ => some k_ ≠ (v323 : Value).ownBlock) (.slice Ao9 t310.length co9) t310) ∧ Aside0 (Kd.R k36 36 w' w.heap.size (fun k_ => some k_ ≠ (v323 : Value).ownBlock) (.slice Ao9 t310.length co9) t310) ∧ Aside0 (w'.heap[gb318]? = some (.cells #[(.slice Ao9 t310.length co9), .int .u64 t313, .int .u64 t314, .int .i64 t315, .int .i64 t316] 38 (0, 0))) ∧ Aside0 (Below w.heap.size w w'))
    case atStart => exact ⟨(0), (by first | rfl | (simp; done) | (simp [*]; done)), H', ⟨Nat.le_refl _⟩, ⟨by (with_reducible repeat (first | apply Kd.R_alloc | apply Kd.R_drewN | apply Kd.R_drew)); exact Kd.R_mono HO324.out (fun _ hk => ⟨hk.1.2, hk.1.2⟩)⟩, ⟨by (with_reducible repeat (first | apply Kd.R_alloc | apply Kd.R_drewN | apply Kd.R_drew)); exact Kd.R_mono HO312.out (fun _ hk => hk.2)⟩, ⟨by (with_reducible repeat (first | apply Kd.R_alloc | apply Kd.R_drewN | apply Kd.R_drew)); exact Kd.R_mono HO312.out (fun _ hk => hk.2)⟩, ⟨by (with_reducible repeat (first | refine blk_drewN ?_ _ | refine blk_drew ?_ | refine blk_alloc ?_ _)); exact BK318.out⟩, ⟨by repeat (first | (with_reducible first | exact HB.out | apply below_alloc | apply pw_below_drewN | apply below_drew1 | refine below_set ?_ GE318.out) | exact HB.out)⟩⟩
    case round =>
      clear H'
      try clear c1
      try clear p2
      try clear c3
      try clear c3b0
      try clear c6
      try clear c10
      try clear c13
      try clear hcz10_0
      try clear hcz10_1
      try clear hcz10_2
      try clear hcz10_3
      try clear hcz10_4
      try clear hcz14_0
      try clear hcz14_1
      try clear hcz14_2
      try clear hcz14_3
      try clear hcz14_4
      try clear hfz10_0
      try clear hfz10_1
      try clear hfz10_2
      try clear hfz10_3
      try clear hfz10_4
      try clear hfz14_0
      try clear hfz14_1
      try clear hfz14_2
      try clear hfz14_3
      try clear hfz14_4
      obtain ⟨x30_1, rfl, HA, HK1, HO_7, HO_28, HO_319000, BK318, HB⟩ := hrel
      cases gk with
      | zero => exact absurd HA.out (by simp [laws_FnInclusionIsTwoRanges.l0])
      | succ k1 =>
        have H := HA.out
        clear HA
        simp only [laws_FnInclusionIsTwoRanges.l0] at H
        by_cases c15 : x30_1 < (t310.length : Int)
        · rw [if_pos c15] at H
          have c15b0 : decide (x30_1 < (t310.length : Int)) = true := decide_eq_true c15
          clear c15
          by_cases c16 : 0 ≤ x30_1
          · rw [if_pos c16] at H
            have c16b0 : decide (0 ≤ x30_1) = true := decide_eq_true c16
            clear c16
            by_cases c17 : x30_1 < (t310.length : Int)
            · rw [if_pos c17] at H
              have c17b0 : decide (x30_1 < (t310.length : Int)) = true := decide_eq_true c17
              clear c17
              replace H := Option.bind_eq_some_iff.mp H
              obtain ⟨t327, A180, H⟩ := H
              replace H : (if t327 = true then (laws_FnInclusionIsTwoRanges.l0 k1 t317 t322 t310 (t310.length : Int) (wrap64 (x30_1 + 1)) t310 t313 t314 t315 t316) else (none)) = some r := H
              have A18 := Aside0.mk A180
              clear A180
              by_cases c19 : t327 = true
              · subst c19
                have H1 : (laws_FnInclusionIsTwoRanges.l0 k1 t317 t322 t310 (t310.length : Int) (wrap64 (x30_1 + 1)) t310 t313 t314 t315 t316) = some r := by rw [if_pos rfl] at H; exact H
                clear H
                have H := H1
                clear H1
                have H' := Aside0.mk H
                clear H
                have p325 : 0 ≤ (x30_1 : Int) := of_decide_eq_true (by first | (with_reducible assumption) | assumption)
                have q325 : x30_1 < (t310.length : Int) := of_decide_eq_true (by first | (with_reducible assumption) | assumption)
                obtain ⟨ad325, e325, hx325_0, hx325_1⟩ := at_T36 (Kd.R_reads' HO_28.out).2.2 x30_1 p325 q325
                cases e325
                replace p325 := eq_true p325
                replace q325 := eq_true q325
                go_wp2_with (first | ((with_reducible refine gate_dst (N := 9) rfl ?_); (try (refine gate_guard (by rfl) ?_; dsimp only)); refine box_event ?hg (N := 9) ?hd (cs := #[.int .u64 0, .int .u64 0]) (t := 36) ?hr ?_; (case hd => rfl); (case hg => rfl); (case hr => first | (go_simp; done) | (go_simp; rfl)); intro gb326 hg w20 hbox hb; have n0_ := Aside0.mk (Kd.R_below (Kd.R_elderB (by (with_reducible repeat (first | apply Kd.R_alloc | apply Kd.R_drewN | apply Kd.R_drew)); exact HO_7.out) gb326 (Nat.le_of_eq hg.symm)) hb); have n1_ := Aside0.mk (Kd.R_below (Kd.R_elderB (by (with_reducible repeat (first | apply Kd.R_alloc | apply Kd.R_drewN | apply Kd.R_drew)); exact HO_28.out) gb326 (Nat.le_of_eq hg.symm)) hb); have n2_ := Aside0.mk (Kd.R_below (Kd.R_elderB (by (with_reducible repeat (first | apply Kd.R_alloc | apply Kd.R_drewN | apply Kd.R_drew)); exact HO_319000.out) gb326 (Nat.le_of_eq hg.symm)) hb); have n3_ := Aside0.mk (blk_below (g := gb318) (o := .cells #[.slice (some ad325) t310.length co9, .int .u64 t313, .int .u64 t314, .int .i64 t315, .int .i64 t316] 38 (0, 0)) (by (with_reducible repeat (first | refine blk_drewN ?_ _ | refine blk_drew ?_ | refine blk_alloc ?_ _)); exact BK318.out) hb); have n4_ := Aside0.mk (below_step (by repeat (first | (with_reducible first | exact HB.out | apply below_alloc | apply pw_below_drewN | apply below_drew1 | refine below_set ?_ GE318.out) | exact HB.out)) hb); have n5_ := Aside0.mk (hbox); have n6_ := Aside0.mk ((by rw [hg]; exact (below_size (by repeat (first | (with_reducible first | exact HB.out | apply below_alloc | apply pw_below_drewN | apply below_drew1 | refine below_set ?_ GE318.out) | exact HB.out))) : w.heap.size ≤ gb326)); have n7_ := Aside0.mk ((by rw [hg]; exact (below_size (by repeat (first | (with_reducible first | exact HB.out | apply below_alloc | apply pw_below_drewN | apply below_drew1 | refine below_set ?_ GE318.out) | exact HB.out))) : w.heap.size ≤ gb326)); have n8_ := Aside0.mk ((by rw [hg]; exact Nat.ne_of_lt (blk_lt (g := gb318) (o := .cells #[.slice (some ad325) t310.length co9, .int .u64 t313, .int .u64 t314, .int .i64 t315, .int .i64 t316] 38 (0, 0)) (by (with_reducible repeat (first | refine blk_drewN ?_ _ | refine blk_drew ?_ | refine blk_alloc ?_ _)); exact BK318.out)) : gb318 ≠ gb326)); have n9_ := Aside0.mk ((by rw [hg]; exact Nat.ne_of_gt (blk_lt (g := gb318) (o := .cells #[.slice (some ad325) t310.length co9, .int .u64 t313, .int .u64 t314, .int .i64 t315, .int .i64 t316] 38 (0, 0)) (by (with_reducible repeat (first | refine blk_drewN ?_ _ | refine blk_drew ?_ | refine blk_alloc ?_ _)); exact BK318.out)) : gb326 ≠ gb318)); clear HO_7; clear HO_28; clear HO_319000; clear BK318; clear HB; have HO_7 := n0_; have HO_28 := n1_; have HO_319000 := n2_; have BK318 := n3_; have HB := n4_; have BK326 := n5_; have GW326 := n6_; have GE326 := n7_; have NB318_326 := n8_; have NB326_318 := n9_; clear n0_ n1_ n2_ n3_ n4_ n5_ n6_ n7_ n8_ n9_; clear hb hbox hg; have hnb21 := NB326_318.out; have hnc21 := NB318_326.out; have hcz22_0 : w20.cell? ⟨gb326, 0, none⟩ = some (.int .u64 0) := (blk_cell BK326.out 0).trans rfl; have hcz22_1 : w20.cell? ⟨gb326, 1, none⟩ = some (.int .u64 0) := (blk_cell BK326.out 1).trans rfl; have hfz22_0 := blk_frozen BK326.out 0; have hfz22_1 := blk_frozen BK326.out 1; obtain ⟨Ao23, co23, eo23⟩ := Kd.R_slice HO_7.out; subst eo23) | ((with_reducible refine gate_callee (f := 16) rfl ?_); refine goesL_ (some 36) rfl rfl Tryd.func16 (by kernel_rfl) rfl #[.slice Ao23 t322.length co23, .agg #[.int .u64 ((rd_T36 t310 x30_1).f0), .int .u64 ((rd_T36 t310 x30_1).f1)]] rfl (by (try simp only [List.map_toArray, List.map_cons, List.map_nil]); first | done | rfl | (simp only [List.length_drop, List.length_take]; rfl)) ?_; (with_reducible refine (spec_HasNode.calls k1 _ _ t322 ((rd_T36 t310 x30_1).f0) ((rd_T36 t310 x30_1).f1) true _ ?side1 ?side2 A18.out).mono ?_); (case side1 => refine (Kd.R_reads' (e := 36) (base := w.heap.size) (ok := fun k_ => ((some k_ ≠ (.slice (some ad325) t310.length co9 : Value).ownBlock ∧ some k_ ≠ (.slice (some ad325) t310.length co9 : Value).ownBlock) ∧ k_ ≠ gb326)) (n := t322.length) (c := co23) ?_).2.2; exact (by (with_reducible repeat (first | apply Kd.R_alloc | apply Kd.R_drewN | apply Kd.R_drew)); exact (Kd.R_mono (Kd.R_far (p := ⟨gb326, 1, none⟩) (Kd.R_far (p := ⟨gb326, 0, none⟩) (Kd.R_mono HO_7.out (fun k_ hk => (⟨hk, hk.2⟩ : _ ∧ k_ ≠ gb326))) (fun _ hk => hk.2) (.int .u64 ((rd_T36 t310 x30_1).f0))) (fun _ hk => hk.2) (.int .u64 ((rd_T36 t310 x30_1).f1))) (fun _ h_ => h_.1)))); (case side2 => exact (Kd.R_reads' HO_7.out).2.1); rintro e w24 ⟨rfl, hb⟩; refine ⟨_, rfl, ?_⟩; have n0_ := Aside0.mk (Kd.R_below (by (with_reducible repeat (first | apply Kd.R_alloc | apply Kd.R_drewN | apply Kd.R_drew)); exact (Kd.R_mono (Kd.R_far (p := ⟨gb326, 1, none⟩) (Kd.R_far (p := ⟨gb326, 0, none⟩) (Kd.R_mono HO_7.out (fun k_ hk => (⟨hk, hk.2⟩ : _ ∧ k_ ≠ gb326))) (fun _ hk => hk.2) (.int .u64 ((rd_T36 t310 x30_1).f0))) (fun _ hk => hk.2) (.int .u64 ((rd_T36 t310 x30_1).f1))) (fun _ h_ => h_.1))) hb); have n1_ := Aside0.mk (Kd.R_below (by (with_reducible repeat (first | apply Kd.R_alloc | apply Kd.R_drewN | apply Kd.R_drew)); exact (Kd.R_mono (Kd.R_far (p := ⟨gb326, 1, none⟩) (Kd.R_far (p := ⟨gb326, 0, none⟩) (Kd.R_mono HO_28.out (fun k_ hk => (⟨hk, hk.2⟩ : _ ∧ k_ ≠ gb326))) (fun _ hk => hk.2) (.int .u64 ((rd_T36 t310 x30_1).f0))) (fun _ hk => hk.2) (.int .u64 ((rd_T36 t310 x30_1).f1))) (fun _ h_ => h_.1))) hb); have n2_ := Aside0.mk (Kd.R_below (by (with_reducible repeat (first | apply Kd.R_alloc | apply Kd.R_drewN | apply Kd.R_drew)); exact (Kd.R_mono (Kd.R_far (p := ⟨gb326, 1, none⟩) (Kd.R_far (p := ⟨gb326, 0, none⟩) (Kd.R_mono HO_319000.out (fun k_ hk => (⟨hk, hk.2⟩ : _ ∧ k_ ≠ gb326))) (fun _ hk => hk.2) (.int .u64 ((rd_T36 t310 x30_1).f0))) (fun _ hk => hk.2) (.int .u64 ((rd_T36 t310 x30_1).f1))) (fun _ h_ => h_.1))) hb); have n3_ := Aside0.mk (blk_below (g := gb318) (o := .cells #[.slice (some ad325) t310.length co9, .int .u64 t313, .int .u64 t314, .int .i64 t315, .int .i64 t316] 38 (0, 0)) (by (with_reducible repeat (first | refine blk_drewN ?_ _ | refine blk_drew ?_ | refine blk_alloc ?_ _)); refine blk_far ?_ NB318_326.out _; (with_reducible repeat (first | refine blk_drewN ?_ _ | refine blk_drew ?_ | refine blk_alloc ?_ _)); refine blk_far ?_ NB318_326.out _; (with_reducible repeat (first | refine blk_drewN ?_ _ | refine blk_drew ?_ | refine blk_alloc ?_ _)); exact BK318.out) hb); have n4_ := Aside0.mk (blk_below (g := gb326) (o := .cells #[.int .u64 ((rd_T36 t310 x30_1).f0), .int .u64 ((rd_T36 t310 x30_1).f1)] 36 (0, 0)) (by (with_reducible repeat (first | refine blk_drewN ?_ _ | refine blk_drew ?_ | refine blk_alloc ?_ _)); refine blk_put (cs := #[.int .u64 ((rd_T36 t310 x30_1).f0), .int .u64 0]) ?_ 1 _ rfl; (with_reducible repeat (first | refine blk_drewN ?_ _ | refine blk_drew ?_ | refine blk_alloc ?_ _)); refine blk_put (cs := #[.int .u64 0, .int .u64 0]) ?_ 0 _ rfl; (with_reducible repeat (first | refine blk_drewN ?_ _ | refine blk_drew ?_ | refine blk_alloc ?_ _)); exact BK326.out) hb); have n5_ := Aside0.mk (below_step (by repeat (first | (with_reducible first | exact HB.out | apply below_alloc | apply pw_below_drewN | apply below_drew1 | refine below_set ?_ GE318.out | refine below_set ?_ GE326.out) | exact HB.out)) hb); clear HO_7; clear HO_28; clear HO_319000; clear BK318; clear BK326; clear HB; have HO_7 := n0_; have HO_28 := n1_; have HO_319000 := n2_; have BK318 := n3_; have BK326 := n4_; have HB := n5_; clear n0_ n1_ n2_ n3_ n4_ n5_; (try clear hb); (try clear hb2); (try clear hk); (try clear hi)))
                go_roundg k1
                case measure => have := HK1.out; omega
                case rel => exact ⟨(wrap64 (x30_1 + 1)), (by first | rfl | (simp; done) | (simp [*]; done)), H', ⟨by have := HK1.out; omega⟩, ⟨by (with_reducible repeat (first | apply Kd.R_alloc | apply Kd.R_drewN | apply Kd.R_drew)); exact Kd.R_mono HO_7.out (fun _ hk => ⟨hk.1.1, hk.1.2⟩)⟩, ⟨by (with_reducible repeat (first | apply Kd.R_alloc | apply Kd.R_drewN | apply Kd.R_drew)); exact Kd.R_mono HO_28.out (fun _ hk => hk.1)⟩, ⟨by (with_reducible repeat (first | apply Kd.R_alloc | apply Kd.R_drewN | apply Kd.R_drew)); exact Kd.R_mono HO_319000.out (fun _ hk => hk.1)⟩, ⟨by (with_reducible repeat (first | refine blk_drewN ?_ _ | refine blk_drew ?_ | refine blk_alloc ?_ _)); exact BK318.out⟩, ⟨by repeat (first | (with_reducible first | exact HB.out | apply below_alloc | apply pw_below_drewN | apply below_drew1 | refine below_set ?_ GE318.out | refine below_set ?_ GE326.out) | exact HB.out)⟩⟩
              · replace c19 := Bool.eq_false_iff.mpr c19
                subst c19
                have H1 : (none) = some r := by rw [if_neg (show ¬ (false = true) by decide)] at H; exact H
                clear H
                have H := H1
                clear H1
                exact absurd H (by simp)
            · rw [if_neg c17] at H
              exact absurd H (by simp)
          · rw [if_neg c16] at H
            exact absurd H (by simp)
        · rw [if_neg c15] at H
          have c15b0 : decide (x30_1 < (t310.length : Int)) = false := decide_eq_false c15
          clear c15
          have H' := Aside0.mk H
          clear H
          obtain ⟨Ao25, co25, eo25⟩ := Kd.R_slice HO_7.out
          subst eo25
          go_wp2
          try simp only [Act.put, List.setIfInBounds_toArray, List.set_cons_zero, List.set_cons_succ]
          go_loopg [41] k1 (fun kq v41 w' => ∃ (x41_2 : Int), v41 = .int .i64 x41_2 ∧ Aside0 (laws_FnInclusionIsTwoRanges.l1 kq t317 t322 t322 (t322.length : Int) x41_2 t310 t313 t314 t315 t316 = some r) ∧ Aside0 (kq ≤ k1) ∧ Aside0 (Kd.R k36 36 w' w.heap.size (fun k_ => some k_ ≠ ((.slice Ao9 t310.length co9) : Value).ownBlock) (.slice Ao25 t322.length co25) t322) ∧ Aside0 (Kd.R k36 36 w' w.heap.size (fun k_ => some k_ ≠ ((.slice Ao9 t310.length co9) : Value).ownBlock) (.slice Ao25 t322.length co25) t322) ∧ Aside0 (Kd.R k36 36 w' w.heap.size (fun k_ => some k_ ≠ ((.slice Ao25 t322.length co25) : Value).ownBlock ∧ some k_ ≠ ((.slice Ao25 t322.length co25) : Value).ownBlock) (.slice Ao9 t310.length co9) t310) ∧ Aside0 (w'.heap[gb318]? = some (.cells #[(.slice Ao9 t310.length co9), .int .u64 t313, .int .u64 t314, .int .i64 t315, .int .i64 t316] 38 (0, 0))) ∧ Aside0 (Below w.heap.size w w'))
          case atStart => exact ⟨(0), (by first | rfl | (simp; done) | (simp [*]; done)), H', ⟨Nat.le_refl _⟩, ⟨by (with_reducible repeat (first | apply Kd.R_alloc | apply Kd.R_drewN | apply Kd.R_drew)); exact Kd.R_mono HO_7.out (fun _ hk => hk.2)⟩, ⟨by (with_reducible repeat (first | apply Kd.R_alloc | apply Kd.R_drewN | apply Kd.R_drew)); exact Kd.R_mono HO_7.out (fun _ hk => hk.2)⟩, ⟨by (with_reducible repeat (first | apply Kd.R_alloc | apply Kd.R_drewN | apply Kd.R_drew)); exact Kd.R_mono HO_319000.out (fun _ hk => ⟨hk, hk⟩)⟩, ⟨by (with_reducible repeat (first | refine blk_drewN ?_ _ | refine blk_drew ?_ | refine blk_alloc ?_ _)); exact BK318.out⟩, ⟨by repeat (first | (with_reducible first | exact HB.out | apply below_alloc | apply pw_below_drewN | apply below_drew1 | refine below_set ?_ GE318.out) | exact HB.out)⟩⟩
          case round =>
            clear H'
            try clear c1
            try clear c2
            try clear p2
            try clear c3
            try clear c3b0
            try clear p3
            try clear q3
            try clear hx3
            try clear c6
            try clear p6
            try clear c10
            try clear c13
            try clear c15
            try clear c15b0
            try clear c16
            try clear c16b0
            try clear c17
            try clear c17b0
            try clear c19
            try clear c21
            try clear hcz10_0
            try clear hcz10_1
            try clear hcz10_2
            try clear hcz10_3
            try clear hcz10_4
            try clear hcz14_0
            try clear hcz14_1
            try clear hcz14_2
            try clear hcz14_3
            try clear hcz14_4
            try clear hcz22_0
            try clear hcz22_1
            try clear hfz10_0
            try clear hfz10_1
            try clear hfz10_2
            try clear hfz10_3
            try clear hfz10_4
            try clear hfz14_0
            try clear hfz14_1
            try clear hfz14_2
            try clear hfz14_3
            try clear hfz14_4
            try clear hfz22_0
            try clear hfz22_1
            try clear hx325_0
            try clear hx325_1
            try clear p2
            try clear p325
            try clear q325
            obtain ⟨x41_2, rfl, HA, HK2, HO_7, HO_39, HO_319000, BK318, HB⟩ := hrel
            cases gk with
            | zero => exact absurd HA.out (by simp [laws_FnInclusionIsTwoRanges.l1])
            | succ k2 =>
              have H := HA.out
              clear HA
              simp only [laws_FnInclusionIsTwoRanges.l1] at H
              by_cases c26 : x41_2 < (t322.length : Int)
              · rw [if_pos c26] at H
                have c26b0 : decide (x41_2 < (t322.length : Int)) = true := decide_eq_true c26
                clear c26
                by_cases c27 : 0 ≤ x41_2
                · rw [if_pos c27] at H
                  have c27b0 : decide (0 ≤ x41_2) = true := decide_eq_true c27
                  clear c27
                  by_cases c28 : x41_2 < (t322.length : Int)
                  · rw [if_pos c28] at H
                    have c28b0 : decide (x41_2 < (t322.length : Int)) = true := decide_eq_true c28
                    clear c28
                    replace H := Option.bind_eq_some_iff.mp H
                    obtain ⟨t330, A290, H⟩ := H
                    replace H : (if t330 = true then (laws_FnInclusionIsTwoRanges.l1 k2 t317 t322 t322 (t322.length : Int) (wrap64 (x41_2 + 1)) t310 t313 t314 t315 t316) else (none)) = some r := H
                    have A29 := Aside0.mk A290
                    clear A290
                    by_cases c30 : t330 = true
                    · subst c30
                      have H1 : (laws_FnInclusionIsTwoRanges.l1 k2 t317 t322 t322 (t322.length : Int) (wrap64 (x41_2 + 1)) t310 t313 t314 t315 t316) = some r := by rw [if_pos rfl] at H; exact H
                      clear H
                      have H := H1
                      clear H1
                      have H' := Aside0.mk H
                      clear H
                      have p328 : 0 ≤ (x41_2 : Int) := of_decide_eq_true (by first | (with_reducible assumption) | assumption)
                      have q328 : x41_2 < (t322.length : Int) := of_decide_eq_true (by first | (with_reducible assumption) | assumption)
                      obtain ⟨ad328, e328, hx328_0, hx328_1⟩ := at_T36 (Kd.R_reads' HO_39.out).2.2 x41_2 p328 q328
                      cases e328
                      replace p328 := eq_true p328
                      replace q328 := eq_true q328
                      go_wp2_with (first | ((with_reducible refine gate_dst (N := 11) rfl ?_); (try (refine gate_guard (by rfl) ?_; dsimp only)); refine box_event ?hg (N := 11) ?hd (cs := #[.int .u64 0, .int .u64 0]) (t := 36) ?hr ?_; (case hd => rfl); (case hg => rfl); (case hr => first | (go_simp; done) | (go_simp; rfl)); intro gb329 hg w31 hbox hb; have n0_ := Aside0.mk (Kd.R_below (Kd.R_elderB (by (with_reducible repeat (first | apply Kd.R_alloc | apply Kd.R_drewN | apply Kd.R_drew)); exact HO_7.out) gb329 (Nat.le_of_eq hg.symm)) hb); have n1_ := Aside0.mk (Kd.R_below (Kd.R_elderB (by (with_reducible repeat (first | apply Kd.R_alloc | apply Kd.R_drewN | apply Kd.R_drew)); exact HO_39.out) gb329 (Nat.le_of_eq hg.symm)) hb); have n2_ := Aside0.mk (Kd.R_below (Kd.R_elderB (by (with_reducible repeat (first | apply Kd.R_alloc | apply Kd.R_drewN | apply Kd.R_drew)); exact HO_319000.out) gb329 (Nat.le_of_eq hg.symm)) hb); have n3_ := Aside0.mk (blk_below (g := gb318) (o := .cells #[.slice Ao9 t310.length co9, .int .u64 t313, .int .u64 t314, .int .i64 t315, .int .i64 t316] 38 (0, 0)) (by (with_reducible repeat (first | refine blk_drewN ?_ _ | refine blk_drew ?_ | refine blk_alloc ?_ _)); exact BK318.out) hb); have n4_ := Aside0.mk (below_step (by repeat (first | (with_reducible first | exact HB.out | apply below_alloc | apply pw_below_drewN | apply below_drew1 | refine below_set ?_ GE318.out) | exact HB.out)) hb); have n5_ := Aside0.mk (hbox); have n6_ := Aside0.mk ((by rw [hg]; exact (below_size (by repeat (first | (with_reducible first | exact HB.out | apply below_alloc | apply pw_below_drewN | apply below_drew1 | refine below_set ?_ GE318.out) | exact HB.out))) : w.heap.size ≤ gb329)); have n7_ := Aside0.mk ((by rw [hg]; exact (below_size (by repeat (first | (with_reducible first | exact HB.out | apply below_alloc | apply pw_below_drewN | apply below_drew1 | refine below_set ?_ GE318.out) | exact HB.out))) : w.heap.size ≤ gb329)); have n8_ := Aside0.mk ((by rw [hg]; exact Nat.ne_of_lt (blk_lt (g := gb318) (o := .cells #[.slice Ao9 t310.length co9, .int .u64 t313, .int .u64 t314, .int .i64 t315, .int .i64 t316] 38 (0, 0)) (by (with_reducible repeat (first | refine blk_drewN ?_ _ | refine blk_drew ?_ | refine blk_alloc ?_ _)); exact BK318.out)) : gb318 ≠ gb329)); have n9_ := Aside0.mk ((by rw [hg]; exact Nat.ne_of_gt (blk_lt (g := gb318) (o := .cells #[.slice Ao9 t310.length co9, .int .u64 t313, .int .u64 t314, .int .i64 t315, .int .i64 t316] 38 (0, 0)) (by (with_reducible repeat (first | refine blk_drewN ?_ _ | refine blk_drew ?_ | refine blk_alloc ?_ _)); exact BK318.out)) : gb329 ≠ gb318)); clear HO_7; clear HO_39; clear HO_319000; clear BK318; clear HB; have HO_7 := n0_; have HO_39 := n1_; have HO_319000 := n2_; have BK318 := n3_; have HB := n4_; have BK329 := n5_; have GW329 := n6_; have GE329 := n7_; have NB318_329 := n8_; have NB329_318 := n9_; clear n0_ n1_ n2_ n3_ n4_ n5_ n6_ n7_ n8_ n9_; clear hb hbox hg; have hnb32 := NB329_318.out; have hnc32 := NB318_329.out; have hcz33_0 : w31.cell? ⟨gb329, 0, none⟩ = some (.int .u64 0) := (blk_cell BK329.out 0).trans rfl; have hcz33_1 : w31.cell? ⟨gb329, 1, none⟩ = some (.int .u64 0) := (blk_cell BK329.out 1).trans rfl; have hfz33_0 := blk_frozen BK329.out 0; have hfz33_1 := blk_frozen BK329.out 1; have hcz34_0 : w31.cell? ⟨gb318, 0, none⟩ = some (.slice Ao9 t310.length co9) := (blk_cell BK318.out 0).trans rfl; have hcz34_1 : w31.cell? ⟨gb318, 1, none⟩ = some (.int .u64 t313) := (blk_cell BK318.out 1).trans rfl; have hcz34_2 : w31.cell? ⟨gb318, 2, none⟩ = some (.int .u64 t314) := (blk_cell BK318.out 2).trans rfl; have hcz34_3 : w31.cell? ⟨gb318, 3, none⟩ = some (.int .i64 t315) := (blk_cell BK318.out 3).trans rfl; have hcz34_4 : w31.cell? ⟨gb318, 4, none⟩ = some (.int .i64 t316) := (blk_cell BK318.out 4).trans rfl; have hfz34_0 := blk_frozen BK318.out 0; have hfz34_1 := blk_frozen BK318.out 1; have hfz34_2 := blk_frozen BK318.out 2; have hfz34_3 := blk_frozen BK318.out 3; have hfz34_4 := blk_frozen BK318.out 4) | ((with_reducible refine gate_callee (f := 16) rfl ?_); refine goesL_ (some 48) rfl rfl Tryd.func16 (by kernel_rfl) rfl #[.slice Ao9 t310.length co9, .agg #[.int .u64 ((rd_T36 t322 x41_2).f0), .int .u64 ((rd_T36 t322 x41_2).f1)]] rfl (by (try simp only [List.map_toArray, List.map_cons, List.map_nil]); first | done | rfl | (simp only [List.length_drop, List.length_take]; rfl)) ?_; (with_reducible refine (spec_HasNode.calls k2 _ _ t310 ((rd_T36 t322 x41_2).f0) ((rd_T36 t322 x41_2).f1) true _ ?side1 ?side2 A29.out).mono ?_); (case side1 => refine (Kd.R_reads' (e := 36) (base := w.heap.size) (ok := fun k_ => ((some k_ ≠ (.slice (some ad328) t322.length co25 : Value).ownBlock ∧ some k_ ≠ (.slice (some ad328) t322.length co25 : Value).ownBlock) ∧ k_ ≠ gb329)) (n := t310.length) (c := co9) ?_).2.2; exact (by (with_reducible repeat (first | apply Kd.R_alloc | apply Kd.R_drewN | apply Kd.R_drew)); exact (Kd.R_mono (Kd.R_far (p := ⟨gb329, 1, none⟩) (Kd.R_far (p := ⟨gb329, 0, none⟩) (Kd.R_mono HO_319000.out (fun k_ hk => (⟨hk, hk.2⟩ : _ ∧ k_ ≠ gb329))) (fun _ hk => hk.2) (.int .u64 ((rd_T36 t322 x41_2).f0))) (fun _ hk => hk.2) (.int .u64 ((rd_T36 t322 x41_2).f1))) (fun _ h_ => h_.1)))); (case side2 => exact (Kd.R_reads' HO_319000.out).2.1); rintro e w35 ⟨rfl, hb⟩; refine ⟨_, rfl, ?_⟩; have n0_ := Aside0.mk (Kd.R_below (by (with_reducible repeat (first | apply Kd.R_alloc | apply Kd.R_drewN | apply Kd.R_drew)); exact (Kd.R_mono (Kd.R_far (p := ⟨gb329, 1, none⟩) (Kd.R_far (p := ⟨gb329, 0, none⟩) (Kd.R_mono HO_7.out (fun k_ hk => (⟨hk, hk.2⟩ : _ ∧ k_ ≠ gb329))) (fun _ hk => hk.2) (.int .u64 ((rd_T36 t322 x41_2).f0))) (fun _ hk => hk.2) (.int .u64 ((rd_T36 t322 x41_2).f1))) (fun _ h_ => h_.1))) hb); have n1_ := Aside0.mk (Kd.R_below (by (with_reducible repeat (first | apply Kd.R_alloc | apply Kd.R_drewN | apply Kd.R_drew)); exact (Kd.R_mono (Kd.R_far (p := ⟨gb329, 1, none⟩) (Kd.R_far (p := ⟨gb329, 0, none⟩) (Kd.R_mono HO_39.out (fun k_ hk => (⟨hk, hk.2⟩ : _ ∧ k_ ≠ gb329))) (fun _ hk => hk.2) (.int .u64 ((rd_T36 t322 x41_2).f0))) (fun _ hk => hk.2) (.int .u64 ((rd_T36 t322 x41_2).f1))) (fun _ h_ => h_.1))) hb); have n2_ := Aside0.mk (Kd.R_below (by (with_reducible repeat (first | apply Kd.R_alloc | apply Kd.R_drewN | apply Kd.R_drew)); exact (Kd.R_mono (Kd.R_far (p := ⟨gb329, 1, none⟩) (Kd.R_far (p := ⟨gb329, 0, none⟩) (Kd.R_mono HO_319000.out (fun k_ hk => (⟨hk, hk.2⟩ : _ ∧ k_ ≠ gb329))) (fun _ hk => hk.2) (.int .u64 ((rd_T36 t322 x41_2).f0))) (fun _ hk => hk.2) (.int .u64 ((rd_T36 t322 x41_2).f1))) (fun _ h_ => h_.1))) hb); have n3_ := Aside0.mk (blk_below (g := gb318) (o := .cells #[.slice Ao9 t310.length co9, .int .u64 t313, .int .u64 t314, .int .i64 t315, .int .i64 t316] 38 (0, 0)) (by (with_reducible repeat (first | refine blk_drewN ?_ _ | refine blk_drew ?_ | refine blk_alloc ?_ _)); refine blk_far ?_ NB318_329.out _; (with_reducible repeat (first | refine blk_drewN ?_ _ | refine blk_drew ?_ | refine blk_alloc ?_ _)); refine blk_far ?_ NB318_329.out _; (with_reducible repeat (first | refine blk_drewN ?_ _ | refine blk_drew ?_ | refine blk_alloc ?_ _)); exact BK318.out) hb); have n4_ := Aside0.mk (blk_below (g := gb329) (o := .cells #[.int .u64 ((rd_T36 t322 x41_2).f0), .int .u64 ((rd_T36 t322 x41_2).f1)] 36 (0, 0)) (by (with_reducible repeat (first | refine blk_drewN ?_ _ | refine blk_drew ?_ | refine blk_alloc ?_ _)); refine blk_put (cs := #[.int .u64 ((rd_T36 t322 x41_2).f0), .int .u64 0]) ?_ 1 _ rfl; (with_reducible repeat (first | refine blk_drewN ?_ _ | refine blk_drew ?_ | refine blk_alloc ?_ _)); refine blk_put (cs := #[.int .u64 0, .int .u64 0]) ?_ 0 _ rfl; (with_reducible repeat (first | refine blk_drewN ?_ _ | refine blk_drew ?_ | refine blk_alloc ?_ _)); exact BK329.out) hb); have n5_ := Aside0.mk (below_step (by repeat (first | (with_reducible first | exact HB.out | apply below_alloc | apply pw_below_drewN | apply below_drew1 | refine below_set ?_ GE318.out | refine below_set ?_ GE329.out) | exact HB.out)) hb); clear HO_7; clear HO_39; clear HO_319000; clear BK318; clear BK329; clear HB; have HO_7 := n0_; have HO_39 := n1_; have HO_319000 := n2_; have BK318 := n3_; have BK329 := n4_; have HB := n5_; clear n0_ n1_ n2_ n3_ n4_ n5_; (try clear hb); (try clear hb2); (try clear hk); (try clear hi)))
                      go_roundg k2
                      case measure => have := HK1.out; have := HK2.out; omega
                      case rel => exact ⟨(wrap64 (x41_2 + 1)), (by first | rfl | (simp; done) | (simp [*]; done)), H', ⟨by have := HK1.out; have := HK2.out; omega⟩, ⟨by (with_reducible repeat (first | apply Kd.R_alloc | apply Kd.R_drewN | apply Kd.R_drew)); exact Kd.R_mono HO_7.out (fun _ hk => hk.1)⟩, ⟨by (with_reducible repeat (first | apply Kd.R_alloc | apply Kd.R_drewN | apply Kd.R_drew)); exact Kd.R_mono HO_39.out (fun _ hk => hk.1)⟩, ⟨by (with_reducible repeat (first | apply Kd.R_alloc | apply Kd.R_drewN | apply Kd.R_drew)); exact Kd.R_mono HO_319000.out (fun _ hk => ⟨hk.1.1, hk.1.2⟩)⟩, ⟨by (with_reducible repeat (first | refine blk_drewN ?_ _ | refine blk_drew ?_ | refine blk_alloc ?_ _)); exact BK318.out⟩, ⟨by repeat (first | (with_reducible first | exact HB.out | apply below_alloc | apply pw_below_drewN | apply below_drew1 | refine below_set ?_ GE318.out | refine below_set ?_ GE329.out) | exact HB.out)⟩⟩
                    · replace c30 := Bool.eq_false_iff.mpr c30
                      subst c30
                      have H1 : (none) = some r := by rw [if_neg (show ¬ (false = true) by decide)] at H; exact H
                      clear H
                      have H := H1
                      clear H1
                      exact absurd H (by simp)
                  · rw [if_neg c28] at H
                    exact absurd H (by simp)
                · rw [if_neg c27] at H
                  exact absurd H (by simp)
              · rw [if_neg c26] at H
                have c26b0 : decide (x41_2 < (t322.length : Int)) = false := decide_eq_false c26
                clear c26
                by_cases c36 : t317 = true
                · subst c36
                  have H1 : (some ((t310.length : Int) == (t322.length : Int))) = some r := by rw [if_pos rfl] at H; exact H
                  clear H
                  have H := H1
                  clear H1
                  obtain rfl := Option.some.inj H
                  have hcz37_0 : wr.cell? ⟨gb318, 0, none⟩ = some (.slice Ao9 t310.length co9) := (blk_cell BK318.out 0).trans rfl
                  have hcz37_1 : wr.cell? ⟨gb318, 1, none⟩ = some (.int .u64 t313) := (blk_cell BK318.out 1).trans rfl
                  have hcz37_2 : wr.cell? ⟨gb318, 2, none⟩ = some (.int .u64 t314) := (blk_cell BK318.out 2).trans rfl
                  have hcz37_3 : wr.cell? ⟨gb318, 3, none⟩ = some (.int .i64 t315) := (blk_cell BK318.out 3).trans rfl
                  have hcz37_4 : wr.cell? ⟨gb318, 4, none⟩ = some (.int .i64 t316) := (blk_cell BK318.out 4).trans rfl
                  have hfz37_0 := blk_frozen BK318.out 0
                  have hfz37_1 := blk_frozen BK318.out 1
                  have hfz37_2 := blk_frozen BK318.out 2
                  have hfz37_3 := blk_frozen BK318.out 3
                  have hfz37_4 := blk_frozen BK318.out 4
                  go_wp2
                  go_ret
                  exact ⟨by first | rfl | (simp [errW_none, errW_some] <;> rfl) | (simp [*, errW_none, errW_some] <;> rfl), by repeat (first | (with_reducible first | exact HB.out | apply below_alloc | apply pw_below_drewN | apply below_drew1 | refine below_set ?_ GE318.out) | exact HB.out)⟩
                · replace c36 := Bool.eq_false_iff.mpr c36
                  subst c36
                  have H1 : (none) = some r := by rw [if_neg (show ¬ (false = true) by decide)] at H; exact H
                  clear H
                  have H := H1
                  clear H1
                  exact absurd H (by simp)

/-- THE ONE PURE STATEMENT of laws_FnInclusionIsTwoRanges: yours. -/
def laws_FnInclusionIsTwoRanges.Pure : Prop := ∀ (a0 : Int) (a1 : Int), (Lit.int .u64 a0).wf = true → (Lit.int .u64 a1).wf = true → ∃ k, laws_FnInclusionIsTwoRanges.f k a0 a1 = some true
theorem laws_FnInclusionIsTwoRanges.walk (P : laws_FnInclusionIsTwoRanges.Pure) (a0 : Int) (a1 : Int) (w : World) (hG : Glob w) (w0 : (Lit.int .u64 a0).wf = true) (w1 : (Lit.int .u64 a1).wf = true) :
    Calls Tryd.prog 6 #[.int .u64 a0, .int .u64 a1] w fun e w' => e = .returned (.bool true) ∧ Below w.heap.size w w' := by
  obtain ⟨k, h⟩ := P a0 a1 w0 w1
  refine (laws_FnInclusionIsTwoRanges.calls k a0 a1 true w hG h).mono ?_
  rintro e w' ⟨rfl, hd⟩
  exact ⟨rfl, hd⟩

end Go.Proofs.YthfgegaakfgjkaaDoor.PAll
