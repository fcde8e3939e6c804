-- Written by a program of this session (wip/tools)
import Derived.Test.YthfgegaakfgjkaaDoorPAllx0
import Derived.Test.YthfgegaakfgjkaaDoorPAllx2
import Derived.Test.YthfgegaakfgjkaaDoorPAllx6
namespace Go.Proofs.YthfgegaakfgjkaaDoor.PAll
open Go.RowKit Go.Proofs.YthfgegaakfgjkaaDoorW.PrintWords Go.Proofs.YthfgegaakfgjkaaDoorW.PrintLast Go.Proofs.YthfgegaakfgjkaaDoorW.PrintMore
attribute [local go_sem] max2_int min2_int max_two min_two max_three min_three max_four min_four   -- for this text's walks alone
set_option linter.unusedVariables false
set_option linter.unusedSimpArgs false

/-! ### spec_proofOf: function 23 -/
mutual
def spec_proofOf.l0 : Nat → List (S26) → Int → Int → Int → Int → List (S36) → Int → Int → Int → Int → Option ((List (S36)) × Int × Int × Int × Int)
  | 0, _, _, _, _, _, _, _, _, _, _ => none
  | k + 1, x10, x11, x12, x230000, x230001, x232000, x232001, x232002, x232003, x232004 => if x12 < x11 then (if 0 ≤ x12 then (if x12 < (x10.length : Int) then (if ((rd_T26 x10 x12).f1) = x230000 then ((spec_NodeOf.f k ((rd_T26 x10 x12).f0) ((rd_T26 x10 x12).f1)).bind fun bt234 => (if x232000.length < 8796093022208 then (spec_proofOf.l0 k x10 x11 (wrap64 (x12 + 1)) ((rd_T26 x10 x12).f0) x230001 (x232000 ++ [(⟨bt234.1, bt234.2⟩ : S36)]) x232001 x232002 x232003 x232004) else (none))) else (if (IntKind.u64.wrap (((rd_T26 x10 x12).f1) - ((rd_T26 x10 x12).f0))) = (IntKind.u64.wrap (x230001 - x230000)) then ((spec_NodeOf.f k ((rd_T26 x10 x12).f0) ((rd_T26 x10 x12).f1)).bind fun bt239 => (if x232000.length < 8796093022208 then (spec_proofOf.l0 k x10 x11 (wrap64 (x12 + 1)) x230000 ((rd_T26 x10 x12).f1) (x232000 ++ [(⟨bt239.1, bt239.2⟩ : S36)]) x232001 x232002 x232003 x232004) else (none))) else ((spec_Nodes.f k ((rd_T26 x10 x12).f0) ((rd_T26 x10 x12).f1)).bind fun t244 => (spec_proofOf.l1 k t244 (wrap64 ((t244.length : Int) - 1)) x10 x11 x12 x230000 x230001 x232000 x232001 x232002 (x232000.length : Int) (wrap64 ((x232000.length : Int) + (t244.length : Int))) ((rd_T26 x10 x12).f0) ((rd_T26 x10 x12).f1))))) else (none)) else (none)) else (some (x232000, x232001, x232002, x232003, x232004))
def spec_proofOf.l1 : Nat → List (S36) → Int → List (S26) → Int → Int → Int → Int → List (S36) → Int → Int → Int → Int → Int → Int → Option ((List (S36)) × Int × Int × Int × Int)
  | 0, _, _, _, _, _, _, _, _, _, _, _, _, _, _ => none
  | k + 1, x8, x9, x10, x11, x12, x230000, x230001, x232000, x232001, x232002, x232003, x232004, x234000, x234001 => if x9 ≥ 0 then (if 0 ≤ x9 then (if x9 < (x8.length : Int) then (if x232000.length < 8796093022208 then (spec_proofOf.l1 k x8 (wrap64 (x9 - 1)) x10 x11 x12 x230000 x230001 (x232000 ++ [(⟨(rd_T36 x8 x9).f0, (rd_T36 x8 x9).f1⟩ : S36)]) x232001 x232002 x232003 x232004 x234000 x234001) else (none)) else (none)) else (none)) else (spec_proofOf.l0 k x10 x11 (wrap64 (x12 + 1)) x230000 x234001 x232000 x232001 x232002 x232003 x232004)
end
def spec_proofOf.f (k : Nat) (a0_0 : Int) (a0_1 : Int) (l1 : List (S26)) : Option ((List (S36)) × Int × Int × Int × Int) := spec_proofOf.l0 k l1 (l1.length : Int) 0 a0_0 a0_1 ([] : List (S36)) 0 0 0 0
theorem spec_proofOf.mono_l : ∀ k, (∀ y0 y1 y2 y3 y4 y5 y6 y7 y8 y9, LeO (spec_proofOf.l0 k y0 y1 y2 y3 y4 y5 y6 y7 y8 y9) (spec_proofOf.l0 (k + 1) y0 y1 y2 y3 y4 y5 y6 y7 y8 y9)) ∧ (∀ y0 y1 y2 y3 y4 y5 y6 y7 y8 y9 y10 y11 y12 y13, LeO (spec_proofOf.l1 k y0 y1 y2 y3 y4 y5 y6 y7 y8 y9 y10 y11 y12 y13) (spec_proofOf.l1 (k + 1) y0 y1 y2 y3 y4 y5 y6 y7 y8 y9 y10 y11 y12 y13))
  | 0 => ⟨fun _ _ _ _ _ _ _ _ _ _ r h => by simp [spec_proofOf.l0] at h, fun _ _ _ _ _ _ _ _ _ _ _ _ _ _ r h => by simp [spec_proofOf.l1] at h⟩
  | k + 1 => by
    obtain ⟨ih0, ih1⟩ := spec_proofOf.mono_l k
    refine ⟨?_, ?_⟩
    · intro y0 y1 y2 y3 y4 y5 y6 y7 y8 y9
      unfold spec_proofOf.l0
      repeat' first
      | (with_reducible exact ih0 _ _ _ _ _ _ _ _ _ _)
      | (with_reducible exact ih1 _ _ _ _ _ _ _ _ _ _ _ _ _ _)
      | (with_reducible exact spec_NodeOf.mono _ _ _)
      | (with_reducible exact spec_Nodes.mono _ _ _)
      | (with_reducible exact LeO.refl _)
      | (with_reducible exact LeO.none _)
      | (with_reducible refine LeO.ite ?_ ?_)
      | (with_reducible refine LeO.bind ?_ (fun _ => ?_))
      | exact ih0 _ _ _ _ _ _ _ _ _ _
      | exact ih1 _ _ _ _ _ _ _ _ _ _ _ _ _ _
      | exact spec_NodeOf.mono _ _ _
      | exact spec_Nodes.mono _ _ _
      | exact LeO.none _
      | refine LeO.ite ?_ ?_
      | refine LeO.bind ?_ (fun _ => ?_)
    · intro y0 y1 y2 y3 y4 y5 y6 y7 y8 y9 y10 y11 y12 y13
      unfold spec_proofOf.l1
      repeat' first
      | (with_reducible exact ih0 _ _ _ _ _ _ _ _ _ _)
      | (with_reducible exact ih1 _ _ _ _ _ _ _ _ _ _ _ _ _ _)
      | (with_reducible exact spec_NodeOf.mono _ _ _)
      | (with_reducible exact spec_Nodes.mono _ _ _)
      | (with_reducible exact LeO.refl _)
      | (with_reducible exact LeO.none _)
      | (with_reducible refine LeO.ite ?_ ?_)
      | (with_reducible refine LeO.bind ?_ (fun _ => ?_))
      | exact ih0 _ _ _ _ _ _ _ _ _ _
      | exact ih1 _ _ _ _ _ _ _ _ _ _ _ _ _ _
      | exact spec_NodeOf.mono _ _ _
      | exact spec_Nodes.mono _ _ _
      | exact LeO.none _
      | refine LeO.ite ?_ ?_
      | refine LeO.bind ?_ (fun _ => ?_)
theorem spec_proofOf.mono : ∀ a0 a1 a2 k, LeO (spec_proofOf.f k a0 a1 a2) (spec_proofOf.f (k + 1) a0 a1 a2) := by
  intro a0 a1 a2 k
  obtain ⟨ih0, ih1⟩ := spec_proofOf.mono_l k
  unfold spec_proofOf.f
  repeat' first
      | (with_reducible exact ih0 _ _ _ _ _ _ _ _ _ _)
      | (with_reducible exact ih1 _ _ _ _ _ _ _ _ _ _ _ _ _ _)
      | (with_reducible exact spec_NodeOf.mono _ _ _)
      | (with_reducible exact spec_Nodes.mono _ _ _)
      | (with_reducible exact LeO.refl _)
      | (with_reducible exact LeO.none _)
      | (with_reducible refine LeO.ite ?_ ?_)
      | (with_reducible refine LeO.bind ?_ (fun _ => ?_))
      | exact ih0 _ _ _ _ _ _ _ _ _ _
      | exact ih1 _ _ _ _ _ _ _ _ _ _ _ _ _ _
      | exact spec_NodeOf.mono _ _ _
      | exact spec_Nodes.mono _ _ _
      | exact LeO.none _
      | refine LeO.ite ?_ ?_
      | refine LeO.bind ?_ (fun _ => ?_)
def spec_proofOf.T6 : Bool × List (List Nat × List Nat) := (true, [([], []), ([0], [0]), ([], []), ([2], [2]), ([3], [3]), ([1, 4, 3], [1, 4]), ([0, 1, 2, 3, 4, 5], []), ([6, 5, 5, 0, 1, 2, 3, 4, 5], [5, 6])])
def spec_proofOf.B6 : List Nat := [0, 1, 0, 4, 12, 31, 63, 127]
theorem spec_proofOf.tab6 : rtab .any (opsOf Tryd.f23 6) = spec_proofOf.T6 := by kernel_rfl
theorem spec_proofOf.bits6 : waitsOk spec_proofOf.T6.2 spec_proofOf.B6 = true := by kernel_rfl
def spec_proofOf.T9 : Bool × List (List Nat × List Nat) := (true, [([], []), ([0], [0]), ([], []), ([2], [2]), ([3], [3]), ([1, 4, 3], [1, 4]), ([0, 1, 2, 3, 4, 5], []), ([6, 5, 5, 0, 1, 2, 3, 4, 5], [5, 6])])
def spec_proofOf.B9 : List Nat := [0, 1, 0, 4, 12, 31, 63, 127]
theorem spec_proofOf.tab9 : rtab .any (opsOf Tryd.f23 9) = spec_proofOf.T9 := by kernel_rfl
theorem spec_proofOf.bits9 : waitsOk spec_proofOf.T9.2 spec_proofOf.B9 = true := by kernel_rfl
def spec_proofOf.T15 : Bool × List (List Nat × List Nat) := (true, [([], []), ([0], [0]), ([], []), ([], []), ([2, 3], [2, 3]), ([4], [4]), ([5], [5]), ([1, 6], [1, 6]), ([0, 1, 2, 3, 4, 5, 6, 7], []), ([8, 7, 7, 0, 1, 2, 3, 4, 5, 6, 7], [7, 8])])
def spec_proofOf.B15 : List Nat := [0, 1, 0, 0, 12, 28, 60, 127, 255, 511]
theorem spec_proofOf.tab15 : rtab .any (opsOf Tryd.f23 15) = spec_proofOf.T15 := by kernel_rfl
theorem spec_proofOf.bits15 : waitsOk spec_proofOf.T15.2 spec_proofOf.B15 = true := by kernel_rfl
set_option maxHeartbeats 8000000 in
set_option maxRecDepth 100000 in
theorem spec_proofOf.calls (k : Nat) (a0_0 : Int) (a0_1 : Int) (A1 : Option Addr) (c1 : Nat) (l1 : List (S26)) (r1 : List (S36)) (r2 : Int) (r3 : Int) (r4 : Int) (r5 : Int) (w : World) (hr1 : Kd.C k26 w A1 l1.length l1) (hc1 : l1.length ≤ c1) (h : spec_proofOf.f k a0_0 a0_1 l1 = some (r1, r2, r3, r4, r5)) :
    Calls Tryd.prog 23 #[.agg #[.int .u64 a0_0, .int .u64 a0_1], .slice A1 l1.length c1] w fun e w' => ∃ v0_ : Value, e = .returned (.agg #[v0_, .int .u64 r2, .int .u64 r3, .int .i64 r4, .int .i64 r5]) ∧ Kd.R k36 36 w' w.heap.size (fun _ => True) v0_ r1 ∧ Below w.heap.size w w' := by
  have hu26 := Tryd.underlying26
  have hu38 := Tryd.underlying38
  have hu36 := Tryd.underlying36
  have HR1 := Aside0.mk hr1
  have HC1 := Aside0.mk hc1
  clear hr1 hc1
  have HB := Aside0.mk (Below.refl w.heap.size w)
  have H : (spec_proofOf.l0 k l1 (l1.length : Int) 0 a0_0 a0_1 ([] : List (S36)) 0 0 0 0) = some (r1, r2, r3, r4, r5) := h
  clear h
  have H' := Aside0.mk H
  clear H
  go_enter Tryd.func23, Tryd.ntmps23
  go_wp2_with (first | ((with_reducible refine gate_dst (N := 2) rfl ?_); refine box_event ?hg (N := 2) ?hd (cs := #[.int .u64 a0_0, .int .u64 a0_1]) (t := 26) ?hr ?_; (case hd => rfl); (case hg => rfl); (case hr => first | (go_simp; done) | (go_simp; rfl)); intro gb229 hg w3 hbox hb; have n0_ := Aside0.mk (below_step (by repeat (first | (with_reducible first | exact HB.out | apply below_alloc | apply pw_below_drewN | apply below_drew1) | exact HB.out)) hb); have n1_ := Aside0.mk (hbox); have n2_ := Aside0.mk ((by rw [hg]; exact (below_size (by repeat (first | (with_reducible first | exact HB.out | apply below_alloc | apply pw_below_drewN | apply below_drew1) | exact HB.out))) : w.heap.size ≤ gb229)); have n3_ := Aside0.mk ((by rw [hg]; exact (below_size (by repeat (first | (with_reducible first | exact HB.out | apply below_alloc | apply pw_below_drewN | apply below_drew1) | exact HB.out))) : w.heap.size ≤ gb229)); clear HB; have HB := n0_; have BK229 := n1_; have GW229 := n2_; have GE229 := n3_; clear n0_ n1_ n2_ n3_; clear hb hbox hg) | ((with_reducible refine gate_dst (N := 4) rfl ?_); refine box_event ?hg (N := 4) ?hd (cs := #[.slice none 0 0, .int .u64 0, .int .u64 0, .int .i64 0, .int .i64 0]) (t := 38) ?hr ?_; (case hd => rfl); (case hg => rfl); (case hr => first | (go_simp; done) | (go_simp; rfl)); intro gb230 hg w4 hbox hb; have n0_ := Aside0.mk (blk_below (g := gb229) (o := .cells #[.int .u64 a0_0, .int .u64 a0_1] 26 (0, 0)) (by (with_reducible repeat (first | refine blk_drewN ?_ _ | refine blk_drew ?_ | refine blk_alloc ?_ _)); exact BK229.out) hb); have n1_ := Aside0.mk (below_step (by repeat (first | (with_reducible first | exact HB.out | apply below_alloc | apply pw_below_drewN | apply below_drew1 | refine below_set ?_ GE229.out) | exact HB.out)) hb); have n2_ := Aside0.mk (hbox); have n3_ := Aside0.mk ((by rw [hg]; exact (below_size (by repeat (first | (with_reducible first | exact HB.out | apply below_alloc | apply pw_below_drewN | apply below_drew1 | refine below_set ?_ GE229.out) | exact HB.out))) : w.heap.size ≤ gb230)); have n4_ := Aside0.mk ((by rw [hg]; exact (below_size (by repeat (first | (with_reducible first | exact HB.out | apply below_alloc | apply pw_below_drewN | apply below_drew1 | refine below_set ?_ GE229.out) | exact HB.out))) : w.heap.size ≤ gb230)); have n5_ := Aside0.mk ((by rw [hg]; exact Nat.ne_of_lt (blk_lt (g := gb229) (o := .cells #[.int .u64 a0_0, .int .u64 a0_1] 26 (0, 0)) (by (with_reducible repeat (first | refine blk_drewN ?_ _ | refine blk_drew ?_ | refine blk_alloc ?_ _)); exact BK229.out)) : gb229 ≠ gb230)); have n6_ := Aside0.mk ((by rw [hg]; exact Nat.ne_of_gt (blk_lt (g := gb229) (o := .cells #[.int .u64 a0_0, .int .u64 a0_1] 26 (0, 0)) (by (with_reducible repeat (first | refine blk_drewN ?_ _ | refine blk_drew ?_ | refine blk_alloc ?_ _)); exact BK229.out)) : gb230 ≠ gb229)); clear BK229; clear HB; have BK229 := n0_; have HB := n1_; have BK230 := n2_; have GW230 := n3_; have GE230 := n4_; have NB229_230 := n5_; have NB230_229 := n6_; clear n0_ n1_ n2_ n3_ n4_ n5_ n6_; clear hb hbox hg) | ((with_reducible refine gate_dst (N := 5) rfl ?_); refine box_event ?hg (N := 5) ?hd (cs := #[.slice none 0 0, .int .u64 0, .int .u64 0, .int .i64 0, .int .i64 0]) (t := 38) ?hr ?_; (case hd => rfl); (case hg => rfl); (case hr => first | (go_simp; done) | (go_simp; rfl)); intro gb231 hg w5 hbox hb; have n0_ := Aside0.mk (blk_below (g := gb229) (o := .cells #[.int .u64 a0_0, .int .u64 a0_1] 26 (0, 0)) (by (with_reducible repeat (first | refine blk_drewN ?_ _ | refine blk_drew ?_ | refine blk_alloc ?_ _)); exact BK229.out) hb); have n1_ := Aside0.mk (blk_below (g := gb230) (o := .cells #[.slice none 0 0, .int .u64 0, .int .u64 0, .int .i64 0, .int .i64 0] 38 (0, 0)) (by (with_reducible repeat (first | refine blk_drewN ?_ _ | refine blk_drew ?_ | refine blk_alloc ?_ _)); exact BK230.out) hb); have n2_ := Aside0.mk (below_step (by repeat (first | (with_reducible first | exact HB.out | apply below_alloc | apply pw_below_drewN | apply below_drew1 | refine below_set ?_ GE229.out | refine below_set ?_ GE230.out) | exact HB.out)) hb); have n3_ := Aside0.mk (hbox); have n4_ := Aside0.mk ((by rw [hg]; exact (below_size (by repeat (first | (with_reducible first | exact HB.out | apply below_alloc | apply pw_below_drewN | apply below_drew1 | refine below_set ?_ GE229.out | refine below_set ?_ GE230.out) | exact HB.out))) : w.heap.size ≤ gb231)); have n5_ := Aside0.mk ((by rw [hg]; exact (below_size (by repeat (first | (with_reducible first | exact HB.out | apply below_alloc | apply pw_below_drewN | apply below_drew1 | refine below_set ?_ GE229.out | refine below_set ?_ GE230.out) | exact HB.out))) : w.heap.size ≤ gb231)); have n6_ := Aside0.mk ((by rw [hg]; exact Nat.ne_of_lt (blk_lt (g := gb229) (o := .cells #[.int .u64 a0_0, .int .u64 a0_1] 26 (0, 0)) (by (with_reducible repeat (first | refine blk_drewN ?_ _ | refine blk_drew ?_ | refine blk_alloc ?_ _)); exact BK229.out)) : gb229 ≠ gb231)); have n7_ := Aside0.mk ((by rw [hg]; exact Nat.ne_of_gt (blk_lt (g := gb229) (o := .cells #[.int .u64 a0_0, .int .u64 a0_1] 26 (0, 0)) (by (with_reducible repeat (first | refine blk_drewN ?_ _ | refine blk_drew ?_ | refine blk_alloc ?_ _)); exact BK229.out)) : gb231 ≠ gb229)); have n8_ := Aside0.mk ((by rw [hg]; exact Nat.ne_of_lt (blk_lt (g := gb230) (o := .cells #[.slice none 0 0, .int .u64 0, .int .u64 0, .int .i64 0, .int .i64 0] 38 (0, 0)) (by (with_reducible repeat (first | refine blk_drewN ?_ _ | refine blk_drew ?_ | refine blk_alloc ?_ _)); exact BK230.out)) : gb230 ≠ gb231)); have n9_ := Aside0.mk ((by rw [hg]; exact Nat.ne_of_gt (blk_lt (g := gb230) (o := .cells #[.slice none 0 0, .int .u64 0, .int .u64 0, .int .i64 0, .int .i64 0] 38 (0, 0)) (by (with_reducible repeat (first | refine blk_drewN ?_ _ | refine blk_drew ?_ | refine blk_alloc ?_ _)); exact BK230.out)) : gb231 ≠ gb230)); clear BK229; clear BK230; clear HB; have BK229 := n0_; have BK230 := n1_; have HB := n2_; have BK231 := n3_; have GW231 := n4_; have GE231 := n5_; have NB229_231 := n6_; have NB231_229 := n7_; have NB230_231 := n8_; have NB231_230 := n9_; clear n0_ n1_ n2_ n3_ n4_ n5_ n6_ n7_ n8_ n9_; clear hb hbox hg))
  try simp only [Act.put, List.setIfInBounds_toArray, List.set_cons_zero, List.set_cons_succ]
  go_loopg [12] k (fun kq v12 w' => ∃ (x12_1 : Int) (x230000_1 : Int) (x230001_1 : Int) (x232000_1 : List (S36)) (x232003_1 : Int) (x232004_1 : Int) (u232000 : Value), v12 = .int .i64 x12_1 ∧ Aside0 (spec_proofOf.l0 kq l1 (l1.length : Int) x12_1 x230000_1 x230001_1 x232000_1 0 0 x232003_1 x232004_1 = some (r1, r2, r3, r4, r5)) ∧ Aside0 (kq ≤ k) ∧ Aside0 (Kd.R k36 36 w' w.heap.size (fun _ => True) u232000 x232000_1) ∧ Aside0 (w'.heap[gb229]? = some (.cells #[.int .u64 x230000_1, .int .u64 x230001_1] 26 (0, 0))) ∧ Aside0 (w'.heap[gb230]? = some (.cells #[(.slice none 0 0), .int .u64 0, .int .u64 0, .int .i64 0, .int .i64 0] 38 (0, 0))) ∧ Aside0 (w'.heap[gb231]? = some (.cells #[u232000, .int .u64 0, .int .u64 0, .int .i64 x232003_1, .int .i64 x232004_1] 38 (0, 0))) ∧ Aside0 (Below w.heap.size w w'))
  case atStart => exact ⟨(0), (a0_0), (a0_1), (([] : List (S36))), (0), (0), (.slice none 0 0), (by first | rfl | (simp; done) | (simp [*]; done)), H', ⟨Nat.le_refl _⟩, ⟨by first | exact Kd.R_nil _ _ _ _ _ | exact Kd.N_nil _ _ _ _ _ | exact Kd.V_nil _ _ _ _ _ | exact Kd.Q_nil _ _ _ _ _ | exact Kd.S_nil _ _ _ _ _⟩, ⟨by (with_reducible repeat (first | refine blk_drewN ?_ _ | refine blk_drew ?_ | refine blk_alloc ?_ _)); exact BK229.out⟩, ⟨by (with_reducible repeat (first | refine blk_drewN ?_ _ | refine blk_drew ?_ | refine blk_alloc ?_ _)); exact BK230.out⟩, ⟨by (with_reducible repeat (first | refine blk_drewN ?_ _ | refine blk_drew ?_ | refine blk_alloc ?_ _)); exact BK231.out⟩, ⟨by repeat (first | (with_reducible first | exact HB.out | apply below_alloc | apply pw_below_drewN | apply below_drew1 | refine below_set ?_ GE229.out | refine below_set ?_ GE230.out | refine below_set ?_ GE231.out) | exact HB.out)⟩⟩
  case round =>
    clear H'
    try clear c1
    try clear c2
    try clear p2
    obtain ⟨x12_1, x230000_1, x230001_1, x232000_1, x232003_1, x232004_1, u232000, rfl, HA, HK1, HO_232000, BK229, BK230, BK231, HB⟩ := hrel
    cases gk with
    | zero => exact absurd HA.out (by simp [spec_proofOf.l0])
    | succ k1 =>
      have H := HA.out
      clear HA
      simp only [spec_proofOf.l0] at H
      by_cases c6 : x12_1 < (l1.length : Int)
      · rw [if_pos c6] at H
        have c6b0 : decide (x12_1 < (l1.length : Int)) = true := decide_eq_true c6
        clear c6
        by_cases c7 : 0 ≤ x12_1
        · rw [if_pos c7] at H
          have c7b0 : decide (0 ≤ x12_1) = true := decide_eq_true c7
          clear c7
          by_cases c8 : x12_1 < (l1.length : Int)
          · rw [if_pos c8] at H
            have c8b0 : decide (x12_1 < (l1.length : Int)) = true := decide_eq_true c8
            clear c8
            by_cases c9 : ((rd_T26 l1 x12_1).f1) = x230000_1
            · rw [if_pos c9] at H
              have c9b0 : (((rd_T26 l1 x12_1).f1) == x230000_1) = true := beq_iff_eq.mpr c9
              have c9b1 : (((rd_T26 l1 x12_1).f1) != x230000_1) = false := bne_eq_false_iff_eq.mpr c9
              clear c9
              replace H := Option.bind_eq_some_iff.mp H
              obtain ⟨⟨t234, t235⟩, A100, H⟩ := H
              replace H : (if x232000_1.length < 8796093022208 then (spec_proofOf.l0 k1 l1 (l1.length : Int) (wrap64 (x12_1 + 1)) ((rd_T26 l1 x12_1).f0) x230001_1 (x232000_1 ++ [(⟨t234, t235⟩ : S36)]) 0 0 x232003_1 x232004_1) else (none)) = some (r1, r2, r3, r4, r5) := H
              have A10 := Aside0.mk A100
              clear A100
              by_cases c11 : x232000_1.length < 8796093022208
              · rw [if_pos c11] at H
                have LMc11 := Aside0.mk c11
                clear c11
                obtain ⟨y236, hy236⟩ : ∃ y_ : List (S36), y_ = (x232000_1 ++ [(⟨t234, t235⟩ : S36)]) := ⟨_, rfl⟩
                replace H : (spec_proofOf.l0 k1 l1 (l1.length : Int) (wrap64 (x12_1 + 1)) ((rd_T26 l1 x12_1).f0) x230001_1 y236 0 0 x232003_1 x232004_1) = some (r1, r2, r3, r4, r5) := by first | (rw [hy236]; with_reducible exact H) | (have H2_ := (Option.bind_some _ _).symm.trans H; rw [hy236]; with_reducible exact H2_) | (have H2_ := (Option.bind_some _ _).symm.trans H; with_reducible exact H2_) | with_reducible exact H | (rw [hy236]; exact H) | exact H
                have Ny236 := Aside0.mk hy236
                clear hy236
                have H' := Aside0.mk H
                clear H
                have p232 : 0 ≤ (x12_1 : Int) := of_decide_eq_true (by first | (with_reducible assumption) | assumption)
                have q232 : x12_1 < (l1.length : Int) := of_decide_eq_true (by first | (with_reducible assumption) | assumption)
                obtain ⟨ad232, e232, hx232_0, hx232_1⟩ := at_T26 HR1.out x12_1 p232 q232
                cases e232
                replace hx232_0 := (HB.out.cell (World.block_lt_of_cell? w _ hx232_0)).trans hx232_0
                replace hx232_1 := (HB.out.cell (World.block_lt_of_cell? w _ hx232_1)).trans hx232_1
                replace p232 := eq_true p232
                replace q232 := eq_true q232
                try go_wp2_with (first | ((with_reducible refine gate_dst (N := 7) rfl ?_); refine box_event ?hg (N := 7) ?hd (cs := #[.int .u64 0, .int .u64 0]) (t := 26) ?hr ?_; (case hd => rfl); (case hg => rfl); (case hr => first | (go_simp; done) | (go_simp; rfl)); intro gb233 hg w12 hbox hb; have n0_ := Aside0.mk (Kd.R_below (by (with_reducible repeat (first | apply Kd.R_alloc | apply Kd.R_drewN | apply Kd.R_drew)); exact HO_232000.out) hb); have n1_ := Aside0.mk (blk_below (g := gb229) (o := .cells #[.int .u64 x230000_1, .int .u64 x230001_1] 26 (0, 0)) (by (with_reducible repeat (first | refine blk_drewN ?_ _ | refine blk_drew ?_ | refine blk_alloc ?_ _)); exact BK229.out) hb); have n2_ := Aside0.mk (blk_below (g := gb230) (o := .cells #[.slice none 0 0, .int .u64 0, .int .u64 0, .int .i64 0, .int .i64 0] 38 (0, 0)) (by (with_reducible repeat (first | refine blk_drewN ?_ _ | refine blk_drew ?_ | refine blk_alloc ?_ _)); exact BK230.out) hb); have n3_ := Aside0.mk (blk_below (g := gb231) (o := .cells #[u232000, .int .u64 0, .int .u64 0, .int .i64 x232003_1, .int .i64 x232004_1] 38 (0, 0)) (by (with_reducible repeat (first | refine blk_drewN ?_ _ | refine blk_drew ?_ | refine blk_alloc ?_ _)); exact BK231.out) hb); have n4_ := Aside0.mk (below_step (by repeat (first | (with_reducible first | exact HB.out | apply below_alloc | apply pw_below_drewN | apply below_drew1 | refine below_set ?_ GE229.out | refine below_set ?_ GE230.out | refine below_set ?_ GE231.out) | exact HB.out)) hb); have n5_ := Aside0.mk (hbox); have n6_ := Aside0.mk ((by rw [hg]; exact (below_size (by repeat (first | (with_reducible first | exact HB.out | apply below_alloc | apply pw_below_drewN | apply below_drew1 | refine below_set ?_ GE229.out | refine below_set ?_ GE230.out | refine below_set ?_ GE231.out) | exact HB.out))) : w.heap.size ≤ gb233)); have n7_ := Aside0.mk ((by rw [hg]; exact (below_size (by repeat (first | (with_reducible first | exact HB.out | apply below_alloc | apply pw_below_drewN | apply below_drew1 | refine below_set ?_ GE229.out | refine below_set ?_ GE230.out | refine below_set ?_ GE231.out) | exact HB.out))) : w.heap.size ≤ gb233)); have n8_ := Aside0.mk ((by rw [hg]; exact Nat.ne_of_lt (blk_lt (g := gb229) (o := .cells #[.int .u64 x230000_1, .int .u64 x230001_1] 26 (0, 0)) (by (with_reducible repeat (first | refine blk_drewN ?_ _ | refine blk_drew ?_ | refine blk_alloc ?_ _)); exact BK229.out)) : gb229 ≠ gb233)); have n9_ := Aside0.mk ((by rw [hg]; exact Nat.ne_of_gt (blk_lt (g := gb229) (o := .cells #[.int .u64 x230000_1, .int .u64 x230001_1] 26 (0, 0)) (by (with_reducible repeat (first | refine blk_drewN ?_ _ | refine blk_drew ?_ | refine blk_alloc ?_ _)); exact BK229.out)) : gb233 ≠ gb229)); have n10_ := Aside0.mk ((by rw [hg]; exact Nat.ne_of_lt (blk_lt (g := gb230) (o := .cells #[.slice none 0 0, .int .u64 0, .int .u64 0, .int .i64 0, .int .i64 0] 38 (0, 0)) (by (with_reducible repeat (first | refine blk_drewN ?_ _ | refine blk_drew ?_ | refine blk_alloc ?_ _)); exact BK230.out)) : gb230 ≠ gb233)); have n11_ := Aside0.mk ((by rw [hg]; exact Nat.ne_of_gt (blk_lt (g := gb230) (o := .cells #[.slice none 0 0, .int .u64 0, .int .u64 0, .int .i64 0, .int .i64 0] 38 (0, 0)) (by (with_reducible repeat (first | refine blk_drewN ?_ _ | refine blk_drew ?_ | refine blk_alloc ?_ _)); exact BK230.out)) : gb233 ≠ gb230)); have n12_ := Aside0.mk ((by rw [hg]; exact Nat.ne_of_lt (blk_lt (g := gb231) (o := .cells #[u232000, .int .u64 0, .int .u64 0, .int .i64 x232003_1, .int .i64 x232004_1] 38 (0, 0)) (by (with_reducible repeat (first | refine blk_drewN ?_ _ | refine blk_drew ?_ | refine blk_alloc ?_ _)); exact BK231.out)) : gb231 ≠ gb233)); have n13_ := Aside0.mk ((by rw [hg]; exact Nat.ne_of_gt (blk_lt (g := gb231) (o := .cells #[u232000, .int .u64 0, .int .u64 0, .int .i64 x232003_1, .int .i64 x232004_1] 38 (0, 0)) (by (with_reducible repeat (first | refine blk_drewN ?_ _ | refine blk_drew ?_ | refine blk_alloc ?_ _)); exact BK231.out)) : gb233 ≠ gb231)); clear HO_232000; clear BK229; clear BK230; clear BK231; clear HB; have HO_232000 := n0_; have BK229 := n1_; have BK230 := n2_; have BK231 := n3_; have HB := n4_; have BK233 := n5_; have GW233 := n6_; have GE233 := n7_; have NB229_233 := n8_; have NB233_229 := n9_; have NB230_233 := n10_; have NB233_230 := n11_; have NB231_233 := n12_; have NB233_231 := n13_; clear n0_ n1_ n2_ n3_ n4_ n5_ n6_ n7_ n8_ n9_ n10_ n11_ n12_ n13_; clear hb hbox hg; have hnb13 := NB233_229.out; have hnc13 := NB229_233.out; have hnb14 := NB233_230.out; have hnc14 := NB230_233.out; have hnb15 := NB233_231.out; have hnc15 := NB231_233.out; have hcz16_0 : w12.cell? ⟨gb233, 0, none⟩ = some (.int .u64 0) := (blk_cell BK233.out 0).trans rfl; have hcz16_1 : w12.cell? ⟨gb233, 1, none⟩ = some (.int .u64 0) := (blk_cell BK233.out 1).trans rfl; have hfz16_0 := blk_frozen BK233.out 0; have hfz16_1 := blk_frozen BK233.out 1; have hnb17 := NB229_230.out; have hnc17 := NB230_229.out; have hnb18 := NB229_231.out; have hnc18 := NB231_229.out; have hcz19_0 : w12.cell? ⟨gb229, 0, none⟩ = some (.int .u64 x230000_1) := (blk_cell BK229.out 0).trans rfl; have hcz19_1 : w12.cell? ⟨gb229, 1, none⟩ = some (.int .u64 x230001_1) := (blk_cell BK229.out 1).trans rfl; have hfz19_0 := blk_frozen BK229.out 0; have hfz19_1 := blk_frozen BK229.out 1))
                have n0_ : Aside0 (Kd.R k36 36 ((w12.setCell ⟨gb233, 0, none⟩ (.int .u64 ((rd_T26 l1 x12_1).f0))).setCell ⟨gb233, 1, none⟩ (.int .u64 ((rd_T26 l1 x12_1).f1))) w.heap.size (fun _ => True) u232000 x232000_1) := ⟨by (with_reducible repeat (first | apply Kd.R_alloc | apply Kd.R_drewN | apply Kd.R_drew)); exact Kd.R_mono (Kd.R_far (p := ⟨gb233, 1, none⟩) (Kd.R_far (p := ⟨gb233, 0, none⟩) (Kd.R_types HO_232000.out BK233.out (by decide)) (fun _ hk => hk.2) (.int .u64 ((rd_T26 l1 x12_1).f0))) (fun _ hk => hk.2) (.int .u64 ((rd_T26 l1 x12_1).f1))) (fun _ hk => trivial)⟩
                have n1_ : Aside0 (((w12.setCell ⟨gb233, 0, none⟩ (.int .u64 ((rd_T26 l1 x12_1).f0))).setCell ⟨gb233, 1, none⟩ (.int .u64 ((rd_T26 l1 x12_1).f1))).heap[gb229]? = some (.cells #[.int .u64 x230000_1, .int .u64 x230001_1] 26 (0, 0))) := ⟨by (with_reducible repeat (first | refine blk_drewN ?_ _ | refine blk_drew ?_ | refine blk_alloc ?_ _)); refine blk_far ?_ NB229_233.out _; (with_reducible repeat (first | refine blk_drewN ?_ _ | refine blk_drew ?_ | refine blk_alloc ?_ _)); refine blk_far ?_ NB229_233.out _; (with_reducible repeat (first | refine blk_drewN ?_ _ | refine blk_drew ?_ | refine blk_alloc ?_ _)); exact BK229.out⟩
                have n2_ : Aside0 (((w12.setCell ⟨gb233, 0, none⟩ (.int .u64 ((rd_T26 l1 x12_1).f0))).setCell ⟨gb233, 1, none⟩ (.int .u64 ((rd_T26 l1 x12_1).f1))).heap[gb230]? = some (.cells #[.slice none 0 0, .int .u64 0, .int .u64 0, .int .i64 0, .int .i64 0] 38 (0, 0))) := ⟨by (with_reducible repeat (first | refine blk_drewN ?_ _ | refine blk_drew ?_ | refine blk_alloc ?_ _)); refine blk_far ?_ NB230_233.out _; (with_reducible repeat (first | refine blk_drewN ?_ _ | refine blk_drew ?_ | refine blk_alloc ?_ _)); refine blk_far ?_ NB230_233.out _; (with_reducible repeat (first | refine blk_drewN ?_ _ | refine blk_drew ?_ | refine blk_alloc ?_ _)); exact BK230.out⟩
                have n3_ : Aside0 (((w12.setCell ⟨gb233, 0, none⟩ (.int .u64 ((rd_T26 l1 x12_1).f0))).setCell ⟨gb233, 1, none⟩ (.int .u64 ((rd_T26 l1 x12_1).f1))).heap[gb231]? = some (.cells #[u232000, .int .u64 0, .int .u64 0, .int .i64 x232003_1, .int .i64 x232004_1] 38 (0, 0))) := ⟨by (with_reducible repeat (first | refine blk_drewN ?_ _ | refine blk_drew ?_ | refine blk_alloc ?_ _)); refine blk_far ?_ NB231_233.out _; (with_reducible repeat (first | refine blk_drewN ?_ _ | refine blk_drew ?_ | refine blk_alloc ?_ _)); refine blk_far ?_ NB231_233.out _; (with_reducible repeat (first | refine blk_drewN ?_ _ | refine blk_drew ?_ | refine blk_alloc ?_ _)); exact BK231.out⟩
                have n4_ : Aside0 (((w12.setCell ⟨gb233, 0, none⟩ (.int .u64 ((rd_T26 l1 x12_1).f0))).setCell ⟨gb233, 1, none⟩ (.int .u64 ((rd_T26 l1 x12_1).f1))).heap[gb233]? = some (.cells #[.int .u64 ((rd_T26 l1 x12_1).f0), .int .u64 ((rd_T26 l1 x12_1).f1)] 26 (0, 0))) := ⟨by (with_reducible repeat (first | refine blk_drewN ?_ _ | refine blk_drew ?_ | refine blk_alloc ?_ _)); refine blk_put (cs := #[.int .u64 ((rd_T26 l1 x12_1).f0), .int .u64 0]) ?_ 1 _ rfl; (with_reducible repeat (first | refine blk_drewN ?_ _ | refine blk_drew ?_ | refine blk_alloc ?_ _)); refine blk_put (cs := #[.int .u64 0, .int .u64 0]) ?_ 0 _ rfl; (with_reducible repeat (first | refine blk_drewN ?_ _ | refine blk_drew ?_ | refine blk_alloc ?_ _)); exact BK233.out⟩
                have n5_ : Aside0 (Below w.heap.size w ((w12.setCell ⟨gb233, 0, none⟩ (.int .u64 ((rd_T26 l1 x12_1).f0))).setCell ⟨gb233, 1, none⟩ (.int .u64 ((rd_T26 l1 x12_1).f1)))) := ⟨by repeat (first | (with_reducible first | exact HB.out | apply below_alloc | apply pw_below_drewN | apply below_drew1 | refine below_set ?_ GE229.out | refine below_set ?_ GE230.out | refine below_set ?_ GE231.out | refine below_set ?_ GE233.out) | exact HB.out)⟩
                (try clear HO_232000)
                (try clear BK229)
                (try clear BK230)
                (try clear BK231)
                (try clear BK233)
                (try clear HB)
                generalize ((w12.setCell ⟨gb233, 0, none⟩ (.int .u64 ((rd_T26 l1 x12_1).f0))).setCell ⟨gb233, 1, none⟩ (.int .u64 ((rd_T26 l1 x12_1).f1))) = w20 at n0_ n1_ n2_ n3_ n4_ n5_ ⊢
                have HO_232000 := n0_
                have BK229 := n1_
                have BK230 := n2_
                have BK231 := n3_
                have BK233 := n4_
                have HB := n5_
                clear n0_ n1_ n2_ n3_ n4_ n5_
                (try (rw [drewN_self w20]; generalize hq_ : World.drewN w20 _ = w20; have n0_ : Aside0 (Kd.R k36 36 w20 w.heap.size (fun _ => True) u232000 x232000_1) := ⟨by rw [← hq_]; exact (by (with_reducible repeat (first | apply Kd.R_alloc | apply Kd.R_drewN | apply Kd.R_drew)); exact HO_232000.out)⟩; have n1_ : Aside0 (w20.heap[gb229]? = some (.cells #[.int .u64 x230000_1, .int .u64 x230001_1] 26 (0, 0))) := ⟨by rw [← hq_]; exact (by (with_reducible repeat (first | refine blk_drewN ?_ _ | refine blk_drew ?_ | refine blk_alloc ?_ _)); exact BK229.out)⟩; have n2_ : Aside0 (w20.heap[gb230]? = some (.cells #[.slice none 0 0, .int .u64 0, .int .u64 0, .int .i64 0, .int .i64 0] 38 (0, 0))) := ⟨by rw [← hq_]; exact (by (with_reducible repeat (first | refine blk_drewN ?_ _ | refine blk_drew ?_ | refine blk_alloc ?_ _)); exact BK230.out)⟩; have n3_ : Aside0 (w20.heap[gb231]? = some (.cells #[u232000, .int .u64 0, .int .u64 0, .int .i64 x232003_1, .int .i64 x232004_1] 38 (0, 0))) := ⟨by rw [← hq_]; exact (by (with_reducible repeat (first | refine blk_drewN ?_ _ | refine blk_drew ?_ | refine blk_alloc ?_ _)); exact BK231.out)⟩; have n4_ : Aside0 (w20.heap[gb233]? = some (.cells #[.int .u64 ((rd_T26 l1 x12_1).f0), .int .u64 ((rd_T26 l1 x12_1).f1)] 26 (0, 0))) := ⟨by rw [← hq_]; exact (by (with_reducible repeat (first | refine blk_drewN ?_ _ | refine blk_drew ?_ | refine blk_alloc ?_ _)); exact BK233.out)⟩; have n5_ : Aside0 (Below w.heap.size w w20) := ⟨by rw [← hq_]; exact (by repeat (first | (with_reducible first | exact HB.out | apply below_alloc | apply pw_below_drewN | apply below_drew1 | refine below_set ?_ GE229.out | refine below_set ?_ GE230.out | refine below_set ?_ GE231.out | refine below_set ?_ GE233.out) | exact HB.out))⟩; clear HO_232000 BK229 BK230 BK231 BK233 HB hq_; have HO_232000 := n0_; have BK229 := n1_; have BK230 := n2_; have BK231 := n3_; have BK233 := n4_; have HB := n5_; clear n0_ n1_ n2_ n3_ n4_ n5_))
                have n0_ := Aside0.mk (Kd.R_drew HO_232000.out)
                have n1_ := Aside0.mk (blk_drew BK229.out)
                have n2_ := Aside0.mk (blk_drew BK230.out)
                have n3_ := Aside0.mk (blk_drew BK231.out)
                have n4_ := Aside0.mk (blk_drew BK233.out)
                have n5_ := Aside0.mk (below_drew1 HB.out)
                clear HO_232000
                clear BK229
                clear BK230
                clear BK231
                clear BK233
                clear HB
                have HO_232000 := n0_
                have BK229 := n1_
                have BK230 := n2_
                have BK231 := n3_
                have BK233 := n4_
                have HB := n5_
                clear n0_ n1_ n2_ n3_ n4_ n5_
                refine start_ (n := 8) (S := fun w' => w'.cell? ⟨gb231, 0, none⟩ = some (u232000) ∧ w'.cell? ⟨gb231, 1, none⟩ = some (.int .u64 0) ∧ w'.cell? ⟨gb231, 2, none⟩ = some (.int .u64 0) ∧ w'.cell? ⟨gb231, 3, none⟩ = some (.int .i64 x232003_1) ∧ w'.cell? ⟨gb231, 4, none⟩ = some (.int .i64 x232004_1) ∧ w'.cell? ⟨gb233, 0, none⟩ = some (.int .u64 ((rd_T26 l1 x12_1).f0)) ∧ w'.cell? ⟨gb233, 1, none⟩ = some (.int .u64 ((rd_T26 l1 x12_1).f1))) (ds := [7]) #[false, false, false, false, false, false, false, false] (by kernel_rfl) rfl rfl ⟨(blk_cell BK231.out 0).trans rfl, (blk_cell BK231.out 1).trans rfl, (blk_cell BK231.out 2).trans rfl, (blk_cell BK231.out 3).trans rfl, (blk_cell BK231.out 4).trans rfl, (blk_cell BK233.out 0).trans rfl, (blk_cell BK233.out 1).trans rfl⟩ (fun hHeld => ?_); refine with_tabW spec_proofOf.tab6 spec_proofOf.bits6 (fun HT_ HW_ => ?_)
                generalize w20.drew = w21 at HO_232000 BK229 BK230 BK231 BK233 HB hHeld ⊢
                refine pure_ (i := 0) (N := some 21) (v := ?_) (a' := ?_) #[true, false, false, false, false, false, false, false] rfl rfl (any_of HT_.out (by kernel_rfl)) (fun _ _ _ h => h) (Or.inl ⟨by rfl, ?_⟩) ?_ ?_
                rotate_left
                · intro w'
                  go_simp
                  with_reducible rfl
                rotate_left
                · simp only [Act.put, List.setIfInBounds_toArray, List.set_cons_zero, List.set_cons_succ, i64_w, i32_w]
                  rfl
                refine take_ (i := 1) (N := some 22) (v := ?_) (a' := ?_) #[true, true, false, false, false, false, false, false] rfl rfl (take_ofW HT_.out HW_.out (by kernel_rfl)) (fun _ _ _ h => h) (Or.inl ⟨by rfl, ?_⟩) hHeld ?_ ?_
                rotate_left
                · rintro w' ⟨s0, s1, s2, s3, s4, s5, s6⟩
                  go_simp
                  with_reducible rfl
                rotate_left
                · simp only [Act.put, List.setIfInBounds_toArray, List.set_cons_zero, List.set_cons_succ, i64_w, i32_w]
                  rfl
                refine take_ (i := 2) (N := some 23) (v := ?_) (a' := ?_) #[true, true, true, false, false, false, false, false] rfl rfl (take_ofW HT_.out HW_.out (by kernel_rfl)) (fun _ _ _ h => h) (Or.inl ⟨by rfl, ?_⟩) hHeld ?_ ?_
                rotate_left
                · rintro w' ⟨s0, s1, s2, s3, s4, s5, s6⟩
                  go_simp
                  with_reducible rfl
                rotate_left
                · simp only [Act.put, List.setIfInBounds_toArray, List.set_cons_zero, List.set_cons_succ, i64_w, i32_w]
                  rfl
                refine one_ (i := 3) (N := some 24) #[true, true, true, true, false, false, false, false] rfl rfl (one_of HT_.out (by kernel_rfl)) (by decide) (fun K hK => ?_)
                refine goes_ Tryd.func36 (by kernel_rfl) rfl #[.agg #[.int .u64 ((rd_T26 l1 x12_1).f0), .int .u64 ((rd_T26 l1 x12_1).f1)]] (by rfl) rfl rfl (by (try simp only [List.map_toArray, List.map_cons, List.map_nil]); first | done | rfl | (simp only [List.length_drop, List.length_take]; rfl)) ?_
                with_reducible refine (spec_NodeOf.calls k1 ((rd_T26 l1 x12_1).f0) ((rd_T26 l1 x12_1).f1) t234 t235 _ A10.out).mono ?_
                rintro e w22 ⟨rfl, hb⟩
                refine ⟨_, rfl, ?_⟩
                have n0_ := Aside0.mk (Kd.R_below (by (with_reducible repeat (first | apply Kd.R_alloc | apply Kd.R_drewN | apply Kd.R_drew)); exact HO_232000.out) hb)
                have n1_ := Aside0.mk (blk_below (g := gb229) (o := .cells #[.int .u64 x230000_1, .int .u64 x230001_1] 26 (0, 0)) (by (with_reducible repeat (first | refine blk_drewN ?_ _ | refine blk_drew ?_ | refine blk_alloc ?_ _)); exact BK229.out) hb)
                have n2_ := Aside0.mk (blk_below (g := gb230) (o := .cells #[.slice none 0 0, .int .u64 0, .int .u64 0, .int .i64 0, .int .i64 0] 38 (0, 0)) (by (with_reducible repeat (first | refine blk_drewN ?_ _ | refine blk_drew ?_ | refine blk_alloc ?_ _)); exact BK230.out) hb)
                have n3_ := Aside0.mk (blk_below (g := gb231) (o := .cells #[u232000, .int .u64 0, .int .u64 0, .int .i64 x232003_1, .int .i64 x232004_1] 38 (0, 0)) (by (with_reducible repeat (first | refine blk_drewN ?_ _ | refine blk_drew ?_ | refine blk_alloc ?_ _)); exact BK231.out) hb)
                have n4_ := Aside0.mk (blk_below (g := gb233) (o := .cells #[.int .u64 ((rd_T26 l1 x12_1).f0), .int .u64 ((rd_T26 l1 x12_1).f1)] 26 (0, 0)) (by (with_reducible repeat (first | refine blk_drewN ?_ _ | refine blk_drew ?_ | refine blk_alloc ?_ _)); exact BK233.out) hb)
                have n5_ := Aside0.mk (below_step (by repeat (first | (with_reducible first | exact HB.out | apply below_alloc | apply pw_below_drewN | apply below_drew1 | refine below_set ?_ GE229.out | refine below_set ?_ GE230.out | refine below_set ?_ GE231.out | refine below_set ?_ GE233.out) | exact HB.out)) hb)
                clear HO_232000
                clear BK229
                clear BK230
                clear BK231
                clear BK233
                clear HB
                have HO_232000 := n0_
                have BK229 := n1_
                have BK230 := n2_
                have BK231 := n3_
                have BK233 := n4_
                have HB := n5_
                clear n0_ n1_ n2_ n3_ n4_ n5_
                (try clear hb)
                (try clear hb2)
                (try clear hk)
                (try clear hi)
                refine hK.out _ _ ⟨(blk_cell BK231.out 0).trans rfl, (blk_cell BK231.out 1).trans rfl, (blk_cell BK231.out 2).trans rfl, (blk_cell BK231.out 3).trans rfl, (blk_cell BK231.out 4).trans rfl, (blk_cell BK233.out 0).trans rfl, (blk_cell BK233.out 1).trans rfl⟩ (fun hHeld => ?_)
                clear hK K
                refine norm_ (a' := ?_) ?_ ?_
                rotate_left
                · show Act.put _ (some 24) _ = _
                  simp only [Act.put, List.setIfInBounds_toArray, List.set_cons_zero, List.set_cons_succ, i64_w, i32_w]
                  rfl
                refine one_ (i := 4) (N := some 25) #[true, true, true, true, true, false, false, false] rfl rfl (one_of HT_.out (by kernel_rfl)) (by decide) (fun K hK => ?_)
                refine value_ (w1 := ?_) (v := ?_) (by rfl) rfl ?_ ?_
                rotate_left 2
                · go_simp
                  constructor
                  · rfl
                  · rfl
                refine hK.out _ _ ⟨(blk_cell (blk_alloc BK231.out _) 0).trans rfl, (blk_cell (blk_alloc BK231.out _) 1).trans rfl, (blk_cell (blk_alloc BK231.out _) 2).trans rfl, (blk_cell (blk_alloc BK231.out _) 3).trans rfl, (blk_cell (blk_alloc BK231.out _) 4).trans rfl, (blk_cell (blk_alloc BK233.out _) 0).trans rfl, (blk_cell (blk_alloc BK233.out _) 1).trans rfl⟩ (fun hHeld => ?_)
                clear hK K
                refine norm_ (a' := ?_) ?_ ?_
                rotate_left
                · show Act.put _ (some 25) _ = _
                  simp only [Act.put, List.setIfInBounds_toArray, List.set_cons_zero, List.set_cons_succ, i64_w, i32_w]
                  rfl
                refine one_ (i := 5) (N := some 26) #[true, true, true, true, true, true, false, false] rfl rfl (one_of HT_.out (by kernel_rfl)) (by decide) (fun K hK => ?_)
                refine Kd.R_append_step k36 (w0 := w) w.heap.size (by rfl) (.tmp 22) (.tmp 25) 23 36 (.agg #[(.int .u64 0), (.int .u64 0)]) 16 rfl Tryd.underlying23 info36 rfl (by decide) (by omega) u232000 x232000_1 (⟨t234, t235⟩ : S36) [.int .u64 t234, .int .u64 t235] (fun _ => True) (fun _ => False) rfl rfl ?aP (fun _ hk => hk.elim) ?aF ?aO ?aB ?aS ?aL ?_
                (case aP => exact k36_mkM _ _ _ (⟨t234, t235⟩ : S36))
                (case aB => exact (by repeat (first | (with_reducible first | exact HB.out | apply below_alloc | apply pw_below_drewN | apply below_drew1 | refine below_set ?_ GE229.out | refine below_set ?_ GE230.out | refine below_set ?_ GE231.out | refine below_set ?_ GE233.out) | exact HB.out)))
                (case aF => exact (fun _ _ => trivial))
                (case aO => exact (by (with_reducible repeat (first | apply Kd.R_alloc | apply Kd.R_drewN | apply Kd.R_drew)); exact HO_232000.out))
                (case aS => exact (below_size (by repeat (first | (with_reducible first | exact HB.out | apply below_alloc | apply pw_below_drewN | apply below_drew1 | refine below_set ?_ GE229.out | refine below_set ?_ GE230.out | refine below_set ?_ GE231.out | refine below_set ?_ GE233.out) | exact HB.out))))
                (case aL => have := LMc11.out; omega)
                intro v237 w23 ho hb hg hat
                rw [← Ny236.out] at ho
                have n0_ := Aside0.mk (blk_grown (g := gb229) (o := .cells #[.int .u64 x230000_1, .int .u64 x230001_1] 26 (0, 0)) (by (with_reducible repeat (first | refine blk_drewN ?_ _ | refine blk_drew ?_ | refine blk_alloc ?_ _)); exact BK229.out) hg (Kd.R_ne HO_232000.out BK229.out (by decide)))
                have n1_ := Aside0.mk (blk_grown (g := gb230) (o := .cells #[.slice none 0 0, .int .u64 0, .int .u64 0, .int .i64 0, .int .i64 0] 38 (0, 0)) (by (with_reducible repeat (first | refine blk_drewN ?_ _ | refine blk_drew ?_ | refine blk_alloc ?_ _)); exact BK230.out) hg (Kd.R_ne HO_232000.out BK230.out (by decide)))
                have n2_ := Aside0.mk (blk_grown (g := gb231) (o := .cells #[u232000, .int .u64 0, .int .u64 0, .int .i64 x232003_1, .int .i64 x232004_1] 38 (0, 0)) (by (with_reducible repeat (first | refine blk_drewN ?_ _ | refine blk_drew ?_ | refine blk_alloc ?_ _)); exact BK231.out) hg (Kd.R_ne HO_232000.out BK231.out (by decide)))
                have n3_ := Aside0.mk (blk_grown (g := gb233) (o := .cells #[.int .u64 ((rd_T26 l1 x12_1).f0), .int .u64 ((rd_T26 l1 x12_1).f1)] 26 (0, 0)) (by (with_reducible repeat (first | refine blk_drewN ?_ _ | refine blk_drew ?_ | refine blk_alloc ?_ _)); exact BK233.out) hg (Kd.R_ne HO_232000.out BK233.out (by decide)))
                have n4_ := Aside0.mk (hb)
                have n5_ := Aside0.mk (ho)
                clear BK229
                clear BK230
                clear BK231
                clear BK233
                clear HB
                clear HO_232000
                have BK229 := n0_
                have BK230 := n1_
                have BK231 := n2_
                have BK233 := n3_
                have HB := n4_
                have HO238 := n5_
                clear n0_ n1_ n2_ n3_ n4_ n5_
                clear ho hb hg hat
                obtain ⟨Ao24, co24, eo24⟩ := Kd.R_slice HO238.out
                (first | subst eo24 | (injection eo24 with f1_ f2_ f3_; have f4_ := f1_.symm; have f5_ := f3_.symm; clear f1_ f2_ f3_; subst f4_; subst f5_))
                refine hK.out _ _ ⟨(blk_cell BK231.out 0).trans rfl, (blk_cell BK231.out 1).trans rfl, (blk_cell BK231.out 2).trans rfl, (blk_cell BK231.out 3).trans rfl, (blk_cell BK231.out 4).trans rfl, (blk_cell BK233.out 0).trans rfl, (blk_cell BK233.out 1).trans rfl⟩ (fun hHeld => ?_)
                clear hK K
                refine norm_ (a' := ?_) ?_ ?_
                rotate_left
                · show Act.put _ (some 26) _ = _
                  simp only [Act.put, List.setIfInBounds_toArray, List.set_cons_zero, List.set_cons_succ, i64_w, i32_w]
                  rfl
                refine pure_ (i := 6) (N := some 27) (v := ?_) (a' := ?_) #[true, true, true, true, true, true, true, false] rfl rfl (any_of HT_.out (by kernel_rfl)) (fun _ _ _ h => h) (Or.inl ⟨by rfl, ?_⟩) ?_ ?_
                rotate_left
                · intro w'
                  go_simp
                  with_reducible rfl
                rotate_left
                · simp only [Act.put, List.setIfInBounds_toArray, List.set_cons_zero, List.set_cons_succ, i64_w, i32_w]
                  rfl
                refine last_ (i := 7) (N := none) #[true, true, true, true, true, true, true, true] rfl rfl (one_of HT_.out (by kernel_rfl)) (by decide) (fun K hK => ?_)
                have hs25 : w23.cell? ⟨gb231, 0, none⟩ = some (u232000) := (blk_cell BK231.out 0).trans rfl
                have hfs25 := blk_frozen BK231.out 0
                have hns25_0 := NB229_231.out
                have hns25_1 := NB230_231.out
                have hns25_3 := NB233_231.out
                have hms25_0 := NB231_229.out
                have hms25_1 := NB231_230.out
                have hms25_3 := NB231_233.out
                refine skip_ (w1 := ?_) (by rfl) rfl ?_ ?_
                rotate_left
                · go_simp
                  rfl
                refine hK.out _ _ ?_
                clear hK K
                refine done_ (done_of HT_.out (by kernel_rfl)) ?_
                have hcz26_0 : w23.cell? ⟨gb233, 0, none⟩ = some (.int .u64 ((rd_T26 l1 x12_1).f0)) := (blk_cell BK233.out 0).trans rfl
                have hcz26_1 : w23.cell? ⟨gb233, 1, none⟩ = some (.int .u64 ((rd_T26 l1 x12_1).f1)) := (blk_cell BK233.out 1).trans rfl
                have hfz26_0 := blk_frozen BK233.out 0
                have hfz26_1 := blk_frozen BK233.out 1
                have hcz27_0 : w23.cell? ⟨gb229, 0, none⟩ = some (.int .u64 x230000_1) := (blk_cell BK229.out 0).trans rfl
                have hcz27_1 : w23.cell? ⟨gb229, 1, none⟩ = some (.int .u64 x230001_1) := (blk_cell BK229.out 1).trans rfl
                have hfz27_0 := blk_frozen BK229.out 0
                have hfz27_1 := blk_frozen BK229.out 1
                try go_wp2
                go_roundg k1
                case measure => have := HK1.out; omega
                case rel => exact ⟨(wrap64 (x12_1 + 1)), ((rd_T26 l1 x12_1).f0), (x230001_1), (y236), (x232003_1), (x232004_1), (.slice Ao24 y236.length co24), (by first | rfl | (simp; done) | (simp [*]; done)), H', ⟨by have := HK1.out; omega⟩, ⟨by (with_reducible repeat (first | apply Kd.R_alloc | apply Kd.R_drewN | apply Kd.R_drew)); exact Kd.R_mono (Kd.R_far (p := ⟨gb229, 0, none⟩) (Kd.R_far (p := ⟨gb231, 0, none⟩) (Kd.R_types (Kd.R_types HO238.out BK231.out (by decide)) BK229.out (by decide)) (fun _ hk => hk.1.2) (.slice Ao24 y236.length co24)) (fun _ hk => hk.2) (.int .u64 ((rd_T26 l1 x12_1).f0))) (fun _ hk => trivial)⟩, ⟨by (with_reducible repeat (first | refine blk_drewN ?_ _ | refine blk_drew ?_ | refine blk_alloc ?_ _)); refine blk_put (cs := #[.int .u64 x230000_1, .int .u64 x230001_1]) ?_ 0 _ rfl; (with_reducible repeat (first | refine blk_drewN ?_ _ | refine blk_drew ?_ | refine blk_alloc ?_ _)); refine blk_far ?_ NB229_231.out _; (with_reducible repeat (first | refine blk_drewN ?_ _ | refine blk_drew ?_ | refine blk_alloc ?_ _)); exact BK229.out⟩, ⟨by (with_reducible repeat (first | refine blk_drewN ?_ _ | refine blk_drew ?_ | refine blk_alloc ?_ _)); refine blk_far ?_ NB230_229.out _; (with_reducible repeat (first | refine blk_drewN ?_ _ | refine blk_drew ?_ | refine blk_alloc ?_ _)); refine blk_far ?_ NB230_231.out _; (with_reducible repeat (first | refine blk_drewN ?_ _ | refine blk_drew ?_ | refine blk_alloc ?_ _)); exact BK230.out⟩, ⟨by (with_reducible repeat (first | refine blk_drewN ?_ _ | refine blk_drew ?_ | refine blk_alloc ?_ _)); refine blk_far ?_ NB231_229.out _; (with_reducible repeat (first | refine blk_drewN ?_ _ | refine blk_drew ?_ | refine blk_alloc ?_ _)); refine blk_put (cs := #[u232000, .int .u64 0, .int .u64 0, .int .i64 x232003_1, .int .i64 x232004_1]) ?_ 0 _ rfl; (with_reducible repeat (first | refine blk_drewN ?_ _ | refine blk_drew ?_ | refine blk_alloc ?_ _)); exact BK231.out⟩, ⟨by repeat (first | (with_reducible first | exact HB.out | apply below_alloc | apply pw_below_drewN | apply below_drew1 | refine below_set ?_ GE229.out | refine below_set ?_ GE230.out | refine below_set ?_ GE231.out | refine below_set ?_ GE233.out) | exact HB.out)⟩⟩
              · rw [if_neg c11] at H
                exact absurd H (by simp)
            · rw [if_neg c9] at H
              have c9b0 : (((rd_T26 l1 x12_1).f1) == x230000_1) = false := beq_eq_false_iff_ne.mpr c9
              have c9b1 : (((rd_T26 l1 x12_1).f1) != x230000_1) = true := bne_iff_ne.mpr c9
              by_cases c28 : (IntKind.u64.wrap (((rd_T26 l1 x12_1).f1) - ((rd_T26 l1 x12_1).f0))) = (IntKind.u64.wrap (x230001_1 - x230000_1))
              · rw [if_pos c28] at H
                have c28b0 : ((IntKind.u64.wrap (((rd_T26 l1 x12_1).f1) - ((rd_T26 l1 x12_1).f0))) == (IntKind.u64.wrap (x230001_1 - x230000_1))) = true := beq_iff_eq.mpr c28
                have c28b1 : ((IntKind.u64.wrap (((rd_T26 l1 x12_1).f1) - ((rd_T26 l1 x12_1).f0))) != (IntKind.u64.wrap (x230001_1 - x230000_1))) = false := bne_eq_false_iff_eq.mpr c28
                clear c28
                replace H := Option.bind_eq_some_iff.mp H
                obtain ⟨⟨t239, t240⟩, A290, H⟩ := H
                replace H : (if x232000_1.length < 8796093022208 then (spec_proofOf.l0 k1 l1 (l1.length : Int) (wrap64 (x12_1 + 1)) x230000_1 ((rd_T26 l1 x12_1).f1) (x232000_1 ++ [(⟨t239, t240⟩ : S36)]) 0 0 x232003_1 x232004_1) else (none)) = some (r1, r2, r3, r4, r5) := H
                have A29 := Aside0.mk A290
                clear A290
                by_cases c30 : x232000_1.length < 8796093022208
                · rw [if_pos c30] at H
                  have LMc30 := Aside0.mk c30
                  clear c30
                  obtain ⟨y241, hy241⟩ : ∃ y_ : List (S36), y_ = (x232000_1 ++ [(⟨t239, t240⟩ : S36)]) := ⟨_, rfl⟩
                  replace H : (spec_proofOf.l0 k1 l1 (l1.length : Int) (wrap64 (x12_1 + 1)) x230000_1 ((rd_T26 l1 x12_1).f1) y241 0 0 x232003_1 x232004_1) = some (r1, r2, r3, r4, r5) := by first | (rw [hy241]; with_reducible exact H) | (have H2_ := (Option.bind_some _ _).symm.trans H; rw [hy241]; with_reducible exact H2_) | (have H2_ := (Option.bind_some _ _).symm.trans H; with_reducible exact H2_) | with_reducible exact H | (rw [hy241]; exact H) | exact H
                  have Ny241 := Aside0.mk hy241
                  clear hy241
                  have H' := Aside0.mk H
                  clear H
                  have p232 : 0 ≤ (x12_1 : Int) := of_decide_eq_true (by first | (with_reducible assumption) | assumption)
                  have q232 : x12_1 < (l1.length : Int) := of_decide_eq_true (by first | (with_reducible assumption) | assumption)
                  obtain ⟨ad232, e232, hx232_0, hx232_1⟩ := at_T26 HR1.out x12_1 p232 q232
                  cases e232
                  replace hx232_0 := (HB.out.cell (World.block_lt_of_cell? w _ hx232_0)).trans hx232_0
                  replace hx232_1 := (HB.out.cell (World.block_lt_of_cell? w _ hx232_1)).trans hx232_1
                  replace p232 := eq_true p232
                  replace q232 := eq_true q232
                  try go_wp2_with (first | ((with_reducible refine gate_dst (N := 7) rfl ?_); refine box_event ?hg (N := 7) ?hd (cs := #[.int .u64 0, .int .u64 0]) (t := 26) ?hr ?_; (case hd => rfl); (case hg => rfl); (case hr => first | (go_simp; done) | (go_simp; rfl)); intro gb233 hg w31 hbox hb; have n0_ := Aside0.mk (Kd.R_below (by (with_reducible repeat (first | apply Kd.R_alloc | apply Kd.R_drewN | apply Kd.R_drew)); exact HO_232000.out) hb); have n1_ := Aside0.mk (blk_below (g := gb229) (o := .cells #[.int .u64 x230000_1, .int .u64 x230001_1] 26 (0, 0)) (by (with_reducible repeat (first | refine blk_drewN ?_ _ | refine blk_drew ?_ | refine blk_alloc ?_ _)); exact BK229.out) hb); have n2_ := Aside0.mk (blk_below (g := gb230) (o := .cells #[.slice none 0 0, .int .u64 0, .int .u64 0, .int .i64 0, .int .i64 0] 38 (0, 0)) (by (with_reducible repeat (first | refine blk_drewN ?_ _ | refine blk_drew ?_ | refine blk_alloc ?_ _)); exact BK230.out) hb); have n3_ := Aside0.mk (blk_below (g := gb231) (o := .cells #[u232000, .int .u64 0, .int .u64 0, .int .i64 x232003_1, .int .i64 x232004_1] 38 (0, 0)) (by (with_reducible repeat (first | refine blk_drewN ?_ _ | refine blk_drew ?_ | refine blk_alloc ?_ _)); exact BK231.out) hb); have n4_ := Aside0.mk (below_step (by repeat (first | (with_reducible first | exact HB.out | apply below_alloc | apply pw_below_drewN | apply below_drew1 | refine below_set ?_ GE229.out | refine below_set ?_ GE230.out | refine below_set ?_ GE231.out) | exact HB.out)) hb); have n5_ := Aside0.mk (hbox); have n6_ := Aside0.mk ((by rw [hg]; exact (below_size (by repeat (first | (with_reducible first | exact HB.out | apply below_alloc | apply pw_below_drewN | apply below_drew1 | refine below_set ?_ GE229.out | refine below_set ?_ GE230.out | refine below_set ?_ GE231.out) | exact HB.out))) : w.heap.size ≤ gb233)); have n7_ := Aside0.mk ((by rw [hg]; exact (below_size (by repeat (first | (with_reducible first | exact HB.out | apply below_alloc | apply pw_below_drewN | apply below_drew1 | refine below_set ?_ GE229.out | refine below_set ?_ GE230.out | refine below_set ?_ GE231.out) | exact HB.out))) : w.heap.size ≤ gb233)); have n8_ := Aside0.mk ((by rw [hg]; exact Nat.ne_of_lt (blk_lt (g := gb229) (o := .cells #[.int .u64 x230000_1, .int .u64 x230001_1] 26 (0, 0)) (by (with_reducible repeat (first | refine blk_drewN ?_ _ | refine blk_drew ?_ | refine blk_alloc ?_ _)); exact BK229.out)) : gb229 ≠ gb233)); have n9_ := Aside0.mk ((by rw [hg]; exact Nat.ne_of_gt (blk_lt (g := gb229) (o := .cells #[.int .u64 x230000_1, .int .u64 x230001_1] 26 (0, 0)) (by (with_reducible repeat (first | refine blk_drewN ?_ _ | refine blk_drew ?_ | refine blk_alloc ?_ _)); exact BK229.out)) : gb233 ≠ gb229)); have n10_ := Aside0.mk ((by rw [hg]; exact Nat.ne_of_lt (blk_lt (g := gb230) (o := .cells #[.slice none 0 0, .int .u64 0, .int .u64 0, .int .i64 0, .int .i64 0] 38 (0, 0)) (by (with_reducible repeat (first | refine blk_drewN ?_ _ | refine blk_drew ?_ | refine blk_alloc ?_ _)); exact BK230.out)) : gb230 ≠ gb233)); have n11_ := Aside0.mk ((by rw [hg]; exact Nat.ne_of_gt (blk_lt (g := gb230) (o := .cells #[.slice none 0 0, .int .u64 0, .int .u64 0, .int .i64 0, .int .i64 0] 38 (0, 0)) (by (with_reducible repeat (first | refine blk_drewN ?_ _ | refine blk_drew ?_ | refine blk_alloc ?_ _)); exact BK230.out)) : gb233 ≠ gb230)); have n12_ := Aside0.mk ((by rw [hg]; exact Nat.ne_of_lt (blk_lt (g := gb231) (o := .cells #[u232000, .int .u64 0, .int .u64 0, .int .i64 x232003_1, .int .i64 x232004_1] 38 (0, 0)) (by (with_reducible repeat (first | refine blk_drewN ?_ _ | refine blk_drew ?_ | refine blk_alloc ?_ _)); exact BK231.out)) : gb231 ≠ gb233)); have n13_ := Aside0.mk ((by rw [hg]; exact Nat.ne_of_gt (blk_lt (g := gb231) (o := .cells #[u232000, .int .u64 0, .int .u64 0, .int .i64 x232003_1, .int .i64 x232004_1] 38 (0, 0)) (by (with_reducible repeat (first | refine blk_drewN ?_ _ | refine blk_drew ?_ | refine blk_alloc ?_ _)); exact BK231.out)) : gb233 ≠ gb231)); clear HO_232000; clear BK229; clear BK230; clear BK231; clear HB; have HO_232000 := n0_; have BK229 := n1_; have BK230 := n2_; have BK231 := n3_; have HB := n4_; have BK233 := n5_; have GW233 := n6_; have GE233 := n7_; have NB229_233 := n8_; have NB233_229 := n9_; have NB230_233 := n10_; have NB233_230 := n11_; have NB231_233 := n12_; have NB233_231 := n13_; clear n0_ n1_ n2_ n3_ n4_ n5_ n6_ n7_ n8_ n9_ n10_ n11_ n12_ n13_; clear hb hbox hg; have hnb32 := NB233_229.out; have hnc32 := NB229_233.out; have hnb33 := NB233_230.out; have hnc33 := NB230_233.out; have hnb34 := NB233_231.out; have hnc34 := NB231_233.out; have hcz35_0 : w31.cell? ⟨gb233, 0, none⟩ = some (.int .u64 0) := (blk_cell BK233.out 0).trans rfl; have hcz35_1 : w31.cell? ⟨gb233, 1, none⟩ = some (.int .u64 0) := (blk_cell BK233.out 1).trans rfl; have hfz35_0 := blk_frozen BK233.out 0; have hfz35_1 := blk_frozen BK233.out 1; have hnb36 := NB229_230.out; have hnc36 := NB230_229.out; have hnb37 := NB229_231.out; have hnc37 := NB231_229.out; have hcz38_0 : w31.cell? ⟨gb229, 0, none⟩ = some (.int .u64 x230000_1) := (blk_cell BK229.out 0).trans rfl; have hcz38_1 : w31.cell? ⟨gb229, 1, none⟩ = some (.int .u64 x230001_1) := (blk_cell BK229.out 1).trans rfl; have hfz38_0 := blk_frozen BK229.out 0; have hfz38_1 := blk_frozen BK229.out 1))
                  have n0_ : Aside0 (Kd.R k36 36 ((w31.setCell ⟨gb233, 0, none⟩ (.int .u64 ((rd_T26 l1 x12_1).f0))).setCell ⟨gb233, 1, none⟩ (.int .u64 ((rd_T26 l1 x12_1).f1))) w.heap.size (fun _ => True) u232000 x232000_1) := ⟨by (with_reducible repeat (first | apply Kd.R_alloc | apply Kd.R_drewN | apply Kd.R_drew)); exact Kd.R_mono (Kd.R_far (p := ⟨gb233, 1, none⟩) (Kd.R_far (p := ⟨gb233, 0, none⟩) (Kd.R_types HO_232000.out BK233.out (by decide)) (fun _ hk => hk.2) (.int .u64 ((rd_T26 l1 x12_1).f0))) (fun _ hk => hk.2) (.int .u64 ((rd_T26 l1 x12_1).f1))) (fun _ hk => trivial)⟩
                  have n1_ : Aside0 (((w31.setCell ⟨gb233, 0, none⟩ (.int .u64 ((rd_T26 l1 x12_1).f0))).setCell ⟨gb233, 1, none⟩ (.int .u64 ((rd_T26 l1 x12_1).f1))).heap[gb229]? = some (.cells #[.int .u64 x230000_1, .int .u64 x230001_1] 26 (0, 0))) := ⟨by (with_reducible repeat (first | refine blk_drewN ?_ _ | refine blk_drew ?_ | refine blk_alloc ?_ _)); refine blk_far ?_ NB229_233.out _; (with_reducible repeat (first | refine blk_drewN ?_ _ | refine blk_drew ?_ | refine blk_alloc ?_ _)); refine blk_far ?_ NB229_233.out _; (with_reducible repeat (first | refine blk_drewN ?_ _ | refine blk_drew ?_ | refine blk_alloc ?_ _)); exact BK229.out⟩
                  have n2_ : Aside0 (((w31.setCell ⟨gb233, 0, none⟩ (.int .u64 ((rd_T26 l1 x12_1).f0))).setCell ⟨gb233, 1, none⟩ (.int .u64 ((rd_T26 l1 x12_1).f1))).heap[gb230]? = some (.cells #[.slice none 0 0, .int .u64 0, .int .u64 0, .int .i64 0, .int .i64 0] 38 (0, 0))) := ⟨by (with_reducible repeat (first | refine blk_drewN ?_ _ | refine blk_drew ?_ | refine blk_alloc ?_ _)); refine blk_far ?_ NB230_233.out _; (with_reducible repeat (first | refine blk_drewN ?_ _ | refine blk_drew ?_ | refine blk_alloc ?_ _)); refine blk_far ?_ NB230_233.out _; (with_reducible repeat (first | refine blk_drewN ?_ _ | refine blk_drew ?_ | refine blk_alloc ?_ _)); exact BK230.out⟩
                  have n3_ : Aside0 (((w31.setCell ⟨gb233, 0, none⟩ (.int .u64 ((rd_T26 l1 x12_1).f0))).setCell ⟨gb233, 1, none⟩ (.int .u64 ((rd_T26 l1 x12_1).f1))).heap[gb231]? = some (.cells #[u232000, .int .u64 0, .int .u64 0, .int .i64 x232003_1, .int .i64 x232004_1] 38 (0, 0))) := ⟨by (with_reducible repeat (first | refine blk_drewN ?_ _ | refine blk_drew ?_ | refine blk_alloc ?_ _)); refine blk_far ?_ NB231_233.out _; (with_reducible repeat (first | refine blk_drewN ?_ _ | refine blk_drew ?_ | refine blk_alloc ?_ _)); refine blk_far ?_ NB231_233.out _; (with_reducible repeat (first | refine blk_drewN ?_ _ | refine blk_drew ?_ | refine blk_alloc ?_ _)); exact BK231.out⟩
                  have n4_ : Aside0 (((w31.setCell ⟨gb233, 0, none⟩ (.int .u64 ((rd_T26 l1 x12_1).f0))).setCell ⟨gb233, 1, none⟩ (.int .u64 ((rd_T26 l1 x12_1).f1))).heap[gb233]? = some (.cells #[.int .u64 ((rd_T26 l1 x12_1).f0), .int .u64 ((rd_T26 l1 x12_1).f1)] 26 (0, 0))) := ⟨by (with_reducible repeat (first | refine blk_drewN ?_ _ | refine blk_drew ?_ | refine blk_alloc ?_ _)); refine blk_put (cs := #[.int .u64 ((rd_T26 l1 x12_1).f0), .int .u64 0]) ?_ 1 _ rfl; (with_reducible repeat (first | refine blk_drewN ?_ _ | refine blk_drew ?_ | refine blk_alloc ?_ _)); refine blk_put (cs := #[.int .u64 0, .int .u64 0]) ?_ 0 _ rfl; (with_reducible repeat (first | refine blk_drewN ?_ _ | refine blk_drew ?_ | refine blk_alloc ?_ _)); exact BK233.out⟩
                  have n5_ : Aside0 (Below w.heap.size w ((w31.setCell ⟨gb233, 0, none⟩ (.int .u64 ((rd_T26 l1 x12_1).f0))).setCell ⟨gb233, 1, none⟩ (.int .u64 ((rd_T26 l1 x12_1).f1)))) := ⟨by repeat (first | (with_reducible first | exact HB.out | apply below_alloc | apply pw_below_drewN | apply below_drew1 | refine below_set ?_ GE229.out | refine below_set ?_ GE230.out | refine below_set ?_ GE231.out | refine below_set ?_ GE233.out) | exact HB.out)⟩
                  (try clear HO_232000)
                  (try clear BK229)
                  (try clear BK230)
                  (try clear BK231)
                  (try clear BK233)
                  (try clear HB)
                  generalize ((w31.setCell ⟨gb233, 0, none⟩ (.int .u64 ((rd_T26 l1 x12_1).f0))).setCell ⟨gb233, 1, none⟩ (.int .u64 ((rd_T26 l1 x12_1).f1))) = w39 at n0_ n1_ n2_ n3_ n4_ n5_ ⊢
                  have HO_232000 := n0_
                  have BK229 := n1_
                  have BK230 := n2_
                  have BK231 := n3_
                  have BK233 := n4_
                  have HB := n5_
                  clear n0_ n1_ n2_ n3_ n4_ n5_
                  (try (rw [drewN_self w39]; generalize hq_ : World.drewN w39 _ = w39; have n0_ : Aside0 (Kd.R k36 36 w39 w.heap.size (fun _ => True) u232000 x232000_1) := ⟨by rw [← hq_]; exact (by (with_reducible repeat (first | apply Kd.R_alloc | apply Kd.R_drewN | apply Kd.R_drew)); exact HO_232000.out)⟩; have n1_ : Aside0 (w39.heap[gb229]? = some (.cells #[.int .u64 x230000_1, .int .u64 x230001_1] 26 (0, 0))) := ⟨by rw [← hq_]; exact (by (with_reducible repeat (first | refine blk_drewN ?_ _ | refine blk_drew ?_ | refine blk_alloc ?_ _)); exact BK229.out)⟩; have n2_ : Aside0 (w39.heap[gb230]? = some (.cells #[.slice none 0 0, .int .u64 0, .int .u64 0, .int .i64 0, .int .i64 0] 38 (0, 0))) := ⟨by rw [← hq_]; exact (by (with_reducible repeat (first | refine blk_drewN ?_ _ | refine blk_drew ?_ | refine blk_alloc ?_ _)); exact BK230.out)⟩; have n3_ : Aside0 (w39.heap[gb231]? = some (.cells #[u232000, .int .u64 0, .int .u64 0, .int .i64 x232003_1, .int .i64 x232004_1] 38 (0, 0))) := ⟨by rw [← hq_]; exact (by (with_reducible repeat (first | refine blk_drewN ?_ _ | refine blk_drew ?_ | refine blk_alloc ?_ _)); exact BK231.out)⟩; have n4_ : Aside0 (w39.heap[gb233]? = some (.cells #[.int .u64 ((rd_T26 l1 x12_1).f0), .int .u64 ((rd_T26 l1 x12_1).f1)] 26 (0, 0))) := ⟨by rw [← hq_]; exact (by (with_reducible repeat (first | refine blk_drewN ?_ _ | refine blk_drew ?_ | refine blk_alloc ?_ _)); exact BK233.out)⟩; have n5_ : Aside0 (Below w.heap.size w w39) := ⟨by rw [← hq_]; exact (by repeat (first | (with_reducible first | exact HB.out | apply below_alloc | apply pw_below_drewN | apply below_drew1 | refine below_set ?_ GE229.out | refine below_set ?_ GE230.out | refine below_set ?_ GE231.out | refine below_set ?_ GE233.out) | exact HB.out))⟩; clear HO_232000 BK229 BK230 BK231 BK233 HB hq_; have HO_232000 := n0_; have BK229 := n1_; have BK230 := n2_; have BK231 := n3_; have BK233 := n4_; have HB := n5_; clear n0_ n1_ n2_ n3_ n4_ n5_))
                  have n0_ := Aside0.mk (Kd.R_drew HO_232000.out)
                  have n1_ := Aside0.mk (blk_drew BK229.out)
                  have n2_ := Aside0.mk (blk_drew BK230.out)
                  have n3_ := Aside0.mk (blk_drew BK231.out)
                  have n4_ := Aside0.mk (blk_drew BK233.out)
                  have n5_ := Aside0.mk (below_drew1 HB.out)
                  clear HO_232000
                  clear BK229
                  clear BK230
                  clear BK231
                  clear BK233
                  clear HB
                  have HO_232000 := n0_
                  have BK229 := n1_
                  have BK230 := n2_
                  have BK231 := n3_
                  have BK233 := n4_
                  have HB := n5_
                  clear n0_ n1_ n2_ n3_ n4_ n5_
                  refine start_ (n := 8) (S := fun w' => w'.cell? ⟨gb231, 0, none⟩ = some (u232000) ∧ w'.cell? ⟨gb231, 1, none⟩ = some (.int .u64 0) ∧ w'.cell? ⟨gb231, 2, none⟩ = some (.int .u64 0) ∧ w'.cell? ⟨gb231, 3, none⟩ = some (.int .i64 x232003_1) ∧ w'.cell? ⟨gb231, 4, none⟩ = some (.int .i64 x232004_1) ∧ w'.cell? ⟨gb233, 0, none⟩ = some (.int .u64 ((rd_T26 l1 x12_1).f0)) ∧ w'.cell? ⟨gb233, 1, none⟩ = some (.int .u64 ((rd_T26 l1 x12_1).f1))) (ds := [7]) #[false, false, false, false, false, false, false, false] (by kernel_rfl) rfl rfl ⟨(blk_cell BK231.out 0).trans rfl, (blk_cell BK231.out 1).trans rfl, (blk_cell BK231.out 2).trans rfl, (blk_cell BK231.out 3).trans rfl, (blk_cell BK231.out 4).trans rfl, (blk_cell BK233.out 0).trans rfl, (blk_cell BK233.out 1).trans rfl⟩ (fun hHeld => ?_); refine with_tabW spec_proofOf.tab9 spec_proofOf.bits9 (fun HT_ HW_ => ?_)
                  generalize w39.drew = w40 at HO_232000 BK229 BK230 BK231 BK233 HB hHeld ⊢
                  refine pure_ (i := 0) (N := some 42) (v := ?_) (a' := ?_) #[true, false, false, false, false, false, false, false] rfl rfl (any_of HT_.out (by kernel_rfl)) (fun _ _ _ h => h) (Or.inl ⟨by rfl, ?_⟩) ?_ ?_
                  rotate_left
                  · intro w'
                    go_simp
                    with_reducible rfl
                  rotate_left
                  · simp only [Act.put, List.setIfInBounds_toArray, List.set_cons_zero, List.set_cons_succ, i64_w, i32_w]
                    rfl
                  refine take_ (i := 1) (N := some 43) (v := ?_) (a' := ?_) #[true, true, false, false, false, false, false, false] rfl rfl (take_ofW HT_.out HW_.out (by kernel_rfl)) (fun _ _ _ h => h) (Or.inl ⟨by rfl, ?_⟩) hHeld ?_ ?_
                  rotate_left
                  · rintro w' ⟨s0, s1, s2, s3, s4, s5, s6⟩
                    go_simp
                    with_reducible rfl
                  rotate_left
                  · simp only [Act.put, List.setIfInBounds_toArray, List.set_cons_zero, List.set_cons_succ, i64_w, i32_w]
                    rfl
                  refine take_ (i := 2) (N := some 44) (v := ?_) (a' := ?_) #[true, true, true, false, false, false, false, false] rfl rfl (take_ofW HT_.out HW_.out (by kernel_rfl)) (fun _ _ _ h => h) (Or.inl ⟨by rfl, ?_⟩) hHeld ?_ ?_
                  rotate_left
                  · rintro w' ⟨s0, s1, s2, s3, s4, s5, s6⟩
                    go_simp
                    with_reducible rfl
                  rotate_left
                  · simp only [Act.put, List.setIfInBounds_toArray, List.set_cons_zero, List.set_cons_succ, i64_w, i32_w]
                    rfl
                  refine one_ (i := 3) (N := some 45) #[true, true, true, true, false, false, false, false] rfl rfl (one_of HT_.out (by kernel_rfl)) (by decide) (fun K hK => ?_)
                  refine goes_ Tryd.func36 (by kernel_rfl) rfl #[.agg #[.int .u64 ((rd_T26 l1 x12_1).f0), .int .u64 ((rd_T26 l1 x12_1).f1)]] (by rfl) rfl rfl (by (try simp only [List.map_toArray, List.map_cons, List.map_nil]); first | done | rfl | (simp only [List.length_drop, List.length_take]; rfl)) ?_
                  with_reducible refine (spec_NodeOf.calls k1 ((rd_T26 l1 x12_1).f0) ((rd_T26 l1 x12_1).f1) t239 t240 _ A29.out).mono ?_
                  rintro e w41 ⟨rfl, hb⟩
                  refine ⟨_, rfl, ?_⟩
                  have n0_ := Aside0.mk (Kd.R_below (by (with_reducible repeat (first | apply Kd.R_alloc | apply Kd.R_drewN | apply Kd.R_drew)); exact HO_232000.out) hb)
                  have n1_ := Aside0.mk (blk_below (g := gb229) (o := .cells #[.int .u64 x230000_1, .int .u64 x230001_1] 26 (0, 0)) (by (with_reducible repeat (first | refine blk_drewN ?_ _ | refine blk_drew ?_ | refine blk_alloc ?_ _)); exact BK229.out) hb)
                  have n2_ := Aside0.mk (blk_below (g := gb230) (o := .cells #[.slice none 0 0, .int .u64 0, .int .u64 0, .int .i64 0, .int .i64 0] 38 (0, 0)) (by (with_reducible repeat (first | refine blk_drewN ?_ _ | refine blk_drew ?_ | refine blk_alloc ?_ _)); exact BK230.out) hb)
                  have n3_ := Aside0.mk (blk_below (g := gb231) (o := .cells #[u232000, .int .u64 0, .int .u64 0, .int .i64 x232003_1, .int .i64 x232004_1] 38 (0, 0)) (by (with_reducible repeat (first | refine blk_drewN ?_ _ | refine blk_drew ?_ | refine blk_alloc ?_ _)); exact BK231.out) hb)
                  have n4_ := Aside0.mk (blk_below (g := gb233) (o := .cells #[.int .u64 ((rd_T26 l1 x12_1).f0), .int .u64 ((rd_T26 l1 x12_1).f1)] 26 (0, 0)) (by (with_reducible repeat (first | refine blk_drewN ?_ _ | refine blk_drew ?_ | refine blk_alloc ?_ _)); exact BK233.out) hb)
                  have n5_ := Aside0.mk (below_step (by repeat (first | (with_reducible first | exact HB.out | apply below_alloc | apply pw_below_drewN | apply below_drew1 | refine below_set ?_ GE229.out | refine below_set ?_ GE230.out | refine below_set ?_ GE231.out | refine below_set ?_ GE233.out) | exact HB.out)) hb)
                  clear HO_232000
                  clear BK229
                  clear BK230
                  clear BK231
                  clear BK233
                  clear HB
                  have HO_232000 := n0_
                  have BK229 := n1_
                  have BK230 := n2_
                  have BK231 := n3_
                  have BK233 := n4_
                  have HB := n5_
                  clear n0_ n1_ n2_ n3_ n4_ n5_
                  (try clear hb)
                  (try clear hb2)
                  (try clear hk)
                  (try clear hi)
                  refine hK.out _ _ ⟨(blk_cell BK231.out 0).trans rfl, (blk_cell BK231.out 1).trans rfl, (blk_cell BK231.out 2).trans rfl, (blk_cell BK231.out 3).trans rfl, (blk_cell BK231.out 4).trans rfl, (blk_cell BK233.out 0).trans rfl, (blk_cell BK233.out 1).trans rfl⟩ (fun hHeld => ?_)
                  clear hK K
                  refine norm_ (a' := ?_) ?_ ?_
                  rotate_left
                  · show Act.put _ (some 45) _ = _
                    simp only [Act.put, List.setIfInBounds_toArray, List.set_cons_zero, List.set_cons_succ, i64_w, i32_w]
                    rfl
                  refine one_ (i := 4) (N := some 46) #[true, true, true, true, true, false, false, false] rfl rfl (one_of HT_.out (by kernel_rfl)) (by decide) (fun K hK => ?_)
                  refine value_ (w1 := ?_) (v := ?_) (by rfl) rfl ?_ ?_
                  rotate_left 2
                  · go_simp
                    constructor
                    · rfl
                    · rfl
                  refine hK.out _ _ ⟨(blk_cell (blk_alloc BK231.out _) 0).trans rfl, (blk_cell (blk_alloc BK231.out _) 1).trans rfl, (blk_cell (blk_alloc BK231.out _) 2).trans rfl, (blk_cell (blk_alloc BK231.out _) 3).trans rfl, (blk_cell (blk_alloc BK231.out _) 4).trans rfl, (blk_cell (blk_alloc BK233.out _) 0).trans rfl, (blk_cell (blk_alloc BK233.out _) 1).trans rfl⟩ (fun hHeld => ?_)
                  clear hK K
                  refine norm_ (a' := ?_) ?_ ?_
                  rotate_left
                  · show Act.put _ (some 46) _ = _
                    simp only [Act.put, List.setIfInBounds_toArray, List.set_cons_zero, List.set_cons_succ, i64_w, i32_w]
                    rfl
                  refine one_ (i := 5) (N := some 47) #[true, true, true, true, true, true, false, false] rfl rfl (one_of HT_.out (by kernel_rfl)) (by decide) (fun K hK => ?_)
                  refine Kd.R_append_step k36 (w0 := w) w.heap.size (by rfl) (.tmp 43) (.tmp 46) 23 36 (.agg #[(.int .u64 0), (.int .u64 0)]) 16 rfl Tryd.underlying23 info36 rfl (by decide) (by omega) u232000 x232000_1 (⟨t239, t240⟩ : S36) [.int .u64 t239, .int .u64 t240] (fun _ => True) (fun _ => False) rfl rfl ?aP (fun _ hk => hk.elim) ?aF ?aO ?aB ?aS ?aL ?_
                  (case aP => exact k36_mkM _ _ _ (⟨t239, t240⟩ : S36))
                  (case aB => exact (by repeat (first | (with_reducible first | exact HB.out | apply below_alloc | apply pw_below_drewN | apply below_drew1 | refine below_set ?_ GE229.out | refine below_set ?_ GE230.out | refine below_set ?_ GE231.out | refine below_set ?_ GE233.out) | exact HB.out)))
                  (case aF => exact (fun _ _ => trivial))
                  (case aO => exact (by (with_reducible repeat (first | apply Kd.R_alloc | apply Kd.R_drewN | apply Kd.R_drew)); exact HO_232000.out))
                  (case aS => exact (below_size (by repeat (first | (with_reducible first | exact HB.out | apply below_alloc | apply pw_below_drewN | apply below_drew1 | refine below_set ?_ GE229.out | refine below_set ?_ GE230.out | refine below_set ?_ GE231.out | refine below_set ?_ GE233.out) | exact HB.out))))
                  (case aL => have := LMc30.out; omega)
                  intro v242 w42 ho hb hg hat
                  rw [← Ny241.out] at ho
                  have n0_ := Aside0.mk (blk_grown (g := gb229) (o := .cells #[.int .u64 x230000_1, .int .u64 x230001_1] 26 (0, 0)) (by (with_reducible repeat (first | refine blk_drewN ?_ _ | refine blk_drew ?_ | refine blk_alloc ?_ _)); exact BK229.out) hg (Kd.R_ne HO_232000.out BK229.out (by decide)))
                  have n1_ := Aside0.mk (blk_grown (g := gb230) (o := .cells #[.slice none 0 0, .int .u64 0, .int .u64 0, .int .i64 0, .int .i64 0] 38 (0, 0)) (by (with_reducible repeat (first | refine blk_drewN ?_ _ | refine blk_drew ?_ | refine blk_alloc ?_ _)); exact BK230.out) hg (Kd.R_ne HO_232000.out BK230.out (by decide)))
                  have n2_ := Aside0.mk (blk_grown (g := gb231) (o := .cells #[u232000, .int .u64 0, .int .u64 0, .int .i64 x232003_1, .int .i64 x232004_1] 38 (0, 0)) (by (with_reducible repeat (first | refine blk_drewN ?_ _ | refine blk_drew ?_ | refine blk_alloc ?_ _)); exact BK231.out) hg (Kd.R_ne HO_232000.out BK231.out (by decide)))
                  have n3_ := Aside0.mk (blk_grown (g := gb233) (o := .cells #[.int .u64 ((rd_T26 l1 x12_1).f0), .int .u64 ((rd_T26 l1 x12_1).f1)] 26 (0, 0)) (by (with_reducible repeat (first | refine blk_drewN ?_ _ | refine blk_drew ?_ | refine blk_alloc ?_ _)); exact BK233.out) hg (Kd.R_ne HO_232000.out BK233.out (by decide)))
                  have n4_ := Aside0.mk (hb)
                  have n5_ := Aside0.mk (ho)
                  clear BK229
                  clear BK230
                  clear BK231
                  clear BK233
                  clear HB
                  clear HO_232000
                  have BK229 := n0_
                  have BK230 := n1_
                  have BK231 := n2_
                  have BK233 := n3_
                  have HB := n4_
                  have HO243 := n5_
                  clear n0_ n1_ n2_ n3_ n4_ n5_
                  clear ho hb hg hat
                  obtain ⟨Ao43, co43, eo43⟩ := Kd.R_slice HO243.out
                  (first | subst eo43 | (injection eo43 with f1_ f2_ f3_; have f4_ := f1_.symm; have f5_ := f3_.symm; clear f1_ f2_ f3_; subst f4_; subst f5_))
                  refine hK.out _ _ ⟨(blk_cell BK231.out 0).trans rfl, (blk_cell BK231.out 1).trans rfl, (blk_cell BK231.out 2).trans rfl, (blk_cell BK231.out 3).trans rfl, (blk_cell BK231.out 4).trans rfl, (blk_cell BK233.out 0).trans rfl, (blk_cell BK233.out 1).trans rfl⟩ (fun hHeld => ?_)
                  clear hK K
                  refine norm_ (a' := ?_) ?_ ?_
                  rotate_left
                  · show Act.put _ (some 47) _ = _
                    simp only [Act.put, List.setIfInBounds_toArray, List.set_cons_zero, List.set_cons_succ, i64_w, i32_w]
                    rfl
                  refine pure_ (i := 6) (N := some 48) (v := ?_) (a' := ?_) #[true, true, true, true, true, true, true, false] rfl rfl (any_of HT_.out (by kernel_rfl)) (fun _ _ _ h => h) (Or.inl ⟨by rfl, ?_⟩) ?_ ?_
                  rotate_left
                  · intro w'
                    go_simp
                    with_reducible rfl
                  rotate_left
                  · simp only [Act.put, List.setIfInBounds_toArray, List.set_cons_zero, List.set_cons_succ, i64_w, i32_w]
                    rfl
                  refine last_ (i := 7) (N := none) #[true, true, true, true, true, true, true, true] rfl rfl (one_of HT_.out (by kernel_rfl)) (by decide) (fun K hK => ?_)
                  have hs44 : w42.cell? ⟨gb231, 0, none⟩ = some (u232000) := (blk_cell BK231.out 0).trans rfl
                  have hfs44 := blk_frozen BK231.out 0
                  have hns44_0 := NB229_231.out
                  have hns44_1 := NB230_231.out
                  have hns44_3 := NB233_231.out
                  have hms44_0 := NB231_229.out
                  have hms44_1 := NB231_230.out
                  have hms44_3 := NB231_233.out
                  refine skip_ (w1 := ?_) (by rfl) rfl ?_ ?_
                  rotate_left
                  · go_simp
                    rfl
                  refine hK.out _ _ ?_
                  clear hK K
                  refine done_ (done_of HT_.out (by kernel_rfl)) ?_
                  have hcz45_0 : w42.cell? ⟨gb233, 0, none⟩ = some (.int .u64 ((rd_T26 l1 x12_1).f0)) := (blk_cell BK233.out 0).trans rfl
                  have hcz45_1 : w42.cell? ⟨gb233, 1, none⟩ = some (.int .u64 ((rd_T26 l1 x12_1).f1)) := (blk_cell BK233.out 1).trans rfl
                  have hfz45_0 := blk_frozen BK233.out 0
                  have hfz45_1 := blk_frozen BK233.out 1
                  have hcz46_0 : w42.cell? ⟨gb229, 0, none⟩ = some (.int .u64 x230000_1) := (blk_cell BK229.out 0).trans rfl
                  have hcz46_1 : w42.cell? ⟨gb229, 1, none⟩ = some (.int .u64 x230001_1) := (blk_cell BK229.out 1).trans rfl
                  have hfz46_0 := blk_frozen BK229.out 0
                  have hfz46_1 := blk_frozen BK229.out 1
                  try go_wp2
                  go_roundg k1
                  case measure => have := HK1.out; omega
                  case rel => exact ⟨(wrap64 (x12_1 + 1)), (x230000_1), ((rd_T26 l1 x12_1).f1), (y241), (x232003_1), (x232004_1), (.slice Ao43 y241.length co43), (by first | rfl | (simp; done) | (simp [*]; done)), H', ⟨by have := HK1.out; omega⟩, ⟨by (with_reducible repeat (first | apply Kd.R_alloc | apply Kd.R_drewN | apply Kd.R_drew)); exact Kd.R_mono (Kd.R_far (p := ⟨gb229, 1, none⟩) (Kd.R_far (p := ⟨gb231, 0, none⟩) (Kd.R_types (Kd.R_types HO243.out BK231.out (by decide)) BK229.out (by decide)) (fun _ hk => hk.1.2) (.slice Ao43 y241.length co43)) (fun _ hk => hk.2) (.int .u64 ((rd_T26 l1 x12_1).f1))) (fun _ hk => trivial)⟩, ⟨by (with_reducible repeat (first | refine blk_drewN ?_ _ | refine blk_drew ?_ | refine blk_alloc ?_ _)); refine blk_put (cs := #[.int .u64 x230000_1, .int .u64 x230001_1]) ?_ 1 _ rfl; (with_reducible repeat (first | refine blk_drewN ?_ _ | refine blk_drew ?_ | refine blk_alloc ?_ _)); refine blk_far ?_ NB229_231.out _; (with_reducible repeat (first | refine blk_drewN ?_ _ | refine blk_drew ?_ | refine blk_alloc ?_ _)); exact BK229.out⟩, ⟨by (with_reducible repeat (first | refine blk_drewN ?_ _ | refine blk_drew ?_ | refine blk_alloc ?_ _)); refine blk_far ?_ NB230_229.out _; (with_reducible repeat (first | refine blk_drewN ?_ _ | refine blk_drew ?_ | refine blk_alloc ?_ _)); refine blk_far ?_ NB230_231.out _; (with_reducible repeat (first | refine blk_drewN ?_ _ | refine blk_drew ?_ | refine blk_alloc ?_ _)); exact BK230.out⟩, ⟨by (with_reducible repeat (first | refine blk_drewN ?_ _ | refine blk_drew ?_ | refine blk_alloc ?_ _)); refine blk_far ?_ NB231_229.out _; (with_reducible repeat (first | refine blk_drewN ?_ _ | refine blk_drew ?_ | refine blk_alloc ?_ _)); refine blk_put (cs := #[u232000, .int .u64 0, .int .u64 0, .int .i64 x232003_1, .int .i64 x232004_1]) ?_ 0 _ rfl; (with_reducible repeat (first | refine blk_drewN ?_ _ | refine blk_drew ?_ | refine blk_alloc ?_ _)); exact BK231.out⟩, ⟨by repeat (first | (with_reducible first | exact HB.out | apply below_alloc | apply pw_below_drewN | apply below_drew1 | refine below_set ?_ GE229.out | refine below_set ?_ GE230.out | refine below_set ?_ GE231.out | refine below_set ?_ GE233.out) | exact HB.out)⟩⟩
                · rw [if_neg c30] at H
                  exact absurd H (by simp)
              · rw [if_neg c28] at H
                have c28b0 : ((IntKind.u64.wrap (((rd_T26 l1 x12_1).f1) - ((rd_T26 l1 x12_1).f0))) == (IntKind.u64.wrap (x230001_1 - x230000_1))) = false := beq_eq_false_iff_ne.mpr c28
                have c28b1 : ((IntKind.u64.wrap (((rd_T26 l1 x12_1).f1) - ((rd_T26 l1 x12_1).f0))) != (IntKind.u64.wrap (x230001_1 - x230000_1))) = true := bne_iff_ne.mpr c28
                replace H := Option.bind_eq_some_iff.mp H
                obtain ⟨t244, A470, H⟩ := H
                replace H : (spec_proofOf.l1 k1 t244 (wrap64 ((t244.length : Int) - 1)) l1 (l1.length : Int) x12_1 x230000_1 x230001_1 x232000_1 0 0 (x232000_1.length : Int) (wrap64 ((x232000_1.length : Int) + (t244.length : Int))) ((rd_T26 l1 x12_1).f0) ((rd_T26 l1 x12_1).f1)) = some (r1, r2, r3, r4, r5) := H
                have A47 := Aside0.mk A470
                clear A470
                have H' := Aside0.mk H
                clear H
                have p232 : 0 ≤ (x12_1 : Int) := of_decide_eq_true (by first | (with_reducible assumption) | assumption)
                have q232 : x12_1 < (l1.length : Int) := of_decide_eq_true (by first | (with_reducible assumption) | assumption)
                obtain ⟨ad232, e232, hx232_0, hx232_1⟩ := at_T26 HR1.out x12_1 p232 q232
                cases e232
                replace hx232_0 := (HB.out.cell (World.block_lt_of_cell? w _ hx232_0)).trans hx232_0
                replace hx232_1 := (HB.out.cell (World.block_lt_of_cell? w _ hx232_1)).trans hx232_1
                replace p232 := eq_true p232
                replace q232 := eq_true q232
                go_wp2_with (first | ((with_reducible refine gate_dst (N := 7) rfl ?_); refine box_event ?hg (N := 7) ?hd (cs := #[.int .u64 0, .int .u64 0]) (t := 26) ?hr ?_; (case hd => rfl); (case hg => rfl); (case hr => first | (go_simp; done) | (go_simp; rfl)); intro gb233 hg w48 hbox hb; have n0_ := Aside0.mk (Kd.R_below (by (with_reducible repeat (first | apply Kd.R_alloc | apply Kd.R_drewN | apply Kd.R_drew)); exact HO_232000.out) hb); have n1_ := Aside0.mk (blk_below (g := gb229) (o := .cells #[.int .u64 x230000_1, .int .u64 x230001_1] 26 (0, 0)) (by (with_reducible repeat (first | refine blk_drewN ?_ _ | refine blk_drew ?_ | refine blk_alloc ?_ _)); exact BK229.out) hb); have n2_ := Aside0.mk (blk_below (g := gb230) (o := .cells #[.slice none 0 0, .int .u64 0, .int .u64 0, .int .i64 0, .int .i64 0] 38 (0, 0)) (by (with_reducible repeat (first | refine blk_drewN ?_ _ | refine blk_drew ?_ | refine blk_alloc ?_ _)); exact BK230.out) hb); have n3_ := Aside0.mk (blk_below (g := gb231) (o := .cells #[u232000, .int .u64 0, .int .u64 0, .int .i64 x232003_1, .int .i64 x232004_1] 38 (0, 0)) (by (with_reducible repeat (first | refine blk_drewN ?_ _ | refine blk_drew ?_ | refine blk_alloc ?_ _)); exact BK231.out) hb); have n4_ := Aside0.mk (below_step (by repeat (first | (with_reducible first | exact HB.out | apply below_alloc | apply pw_below_drewN | apply below_drew1 | refine below_set ?_ GE229.out | refine below_set ?_ GE230.out | refine below_set ?_ GE231.out) | exact HB.out)) hb); have n5_ := Aside0.mk (hbox); have n6_ := Aside0.mk ((by rw [hg]; exact (below_size (by repeat (first | (with_reducible first | exact HB.out | apply below_alloc | apply pw_below_drewN | apply below_drew1 | refine below_set ?_ GE229.out | refine below_set ?_ GE230.out | refine below_set ?_ GE231.out) | exact HB.out))) : w.heap.size ≤ gb233)); have n7_ := Aside0.mk ((by rw [hg]; exact (below_size (by repeat (first | (with_reducible first | exact HB.out | apply below_alloc | apply pw_below_drewN | apply below_drew1 | refine below_set ?_ GE229.out | refine below_set ?_ GE230.out | refine below_set ?_ GE231.out) | exact HB.out))) : w.heap.size ≤ gb233)); have n8_ := Aside0.mk ((by rw [hg]; exact Nat.ne_of_lt (blk_lt (g := gb229) (o := .cells #[.int .u64 x230000_1, .int .u64 x230001_1] 26 (0, 0)) (by (with_reducible repeat (first | refine blk_drewN ?_ _ | refine blk_drew ?_ | refine blk_alloc ?_ _)); exact BK229.out)) : gb229 ≠ gb233)); have n9_ := Aside0.mk ((by rw [hg]; exact Nat.ne_of_gt (blk_lt (g := gb229) (o := .cells #[.int .u64 x230000_1, .int .u64 x230001_1] 26 (0, 0)) (by (with_reducible repeat (first | refine blk_drewN ?_ _ | refine blk_drew ?_ | refine blk_alloc ?_ _)); exact BK229.out)) : gb233 ≠ gb229)); have n10_ := Aside0.mk ((by rw [hg]; exact Nat.ne_of_lt (blk_lt (g := gb230) (o := .cells #[.slice none 0 0, .int .u64 0, .int .u64 0, .int .i64 0, .int .i64 0] 38 (0, 0)) (by (with_reducible repeat (first | refine blk_drewN ?_ _ | refine blk_drew ?_ | refine blk_alloc ?_ _)); exact BK230.out)) : gb230 ≠ gb233)); have n11_ := Aside0.mk ((by rw [hg]; exact Nat.ne_of_gt (blk_lt (g := gb230) (o := .cells #[.slice none 0 0, .int .u64 0, .int .u64 0, .int .i64 0, .int .i64 0] 38 (0, 0)) (by (with_reducible repeat (first | refine blk_drewN ?_ _ | refine blk_drew ?_ | refine blk_alloc ?_ _)); exact BK230.out)) : gb233 ≠ gb230)); have n12_ := Aside0.mk ((by rw [hg]; exact Nat.ne_of_lt (blk_lt (g := gb231) (o := .cells #[u232000, .int .u64 0, .int .u64 0, .int .i64 x232003_1, .int .i64 x232004_1] 38 (0, 0)) (by (with_reducible repeat (first | refine blk_drewN ?_ _ | refine blk_drew ?_ | refine blk_alloc ?_ _)); exact BK231.out)) : gb231 ≠ gb233)); have n13_ := Aside0.mk ((by rw [hg]; exact Nat.ne_of_gt (blk_lt (g := gb231) (o := .cells #[u232000, .int .u64 0, .int .u64 0, .int .i64 x232003_1, .int .i64 x232004_1] 38 (0, 0)) (by (with_reducible repeat (first | refine blk_drewN ?_ _ | refine blk_drew ?_ | refine blk_alloc ?_ _)); exact BK231.out)) : gb233 ≠ gb231)); clear HO_232000; clear BK229; clear BK230; clear BK231; clear HB; have HO_232000 := n0_; have BK229 := n1_; have BK230 := n2_; have BK231 := n3_; have HB := n4_; have BK233 := n5_; have GW233 := n6_; have GE233 := n7_; have NB229_233 := n8_; have NB233_229 := n9_; have NB230_233 := n10_; have NB233_230 := n11_; have NB231_233 := n12_; have NB233_231 := n13_; clear n0_ n1_ n2_ n3_ n4_ n5_ n6_ n7_ n8_ n9_ n10_ n11_ n12_ n13_; clear hb hbox hg; have hnb49 := NB233_229.out; have hnc49 := NB229_233.out; have hnb50 := NB233_230.out; have hnc50 := NB230_233.out; have hnb51 := NB233_231.out; have hnc51 := NB231_233.out; have hcz52_0 : w48.cell? ⟨gb233, 0, none⟩ = some (.int .u64 0) := (blk_cell BK233.out 0).trans rfl; have hcz52_1 : w48.cell? ⟨gb233, 1, none⟩ = some (.int .u64 0) := (blk_cell BK233.out 1).trans rfl; have hfz52_0 := blk_frozen BK233.out 0; have hfz52_1 := blk_frozen BK233.out 1; have hnb53 := NB229_230.out; have hnc53 := NB230_229.out; have hnb54 := NB229_231.out; have hnc54 := NB231_229.out; have hcz55_0 : w48.cell? ⟨gb229, 0, none⟩ = some (.int .u64 x230000_1) := (blk_cell BK229.out 0).trans rfl; have hcz55_1 : w48.cell? ⟨gb229, 1, none⟩ = some (.int .u64 x230001_1) := (blk_cell BK229.out 1).trans rfl; have hfz55_0 := blk_frozen BK229.out 0; have hfz55_1 := blk_frozen BK229.out 1) | ((with_reducible refine gate_callee (f := 7) rfl ?_); refine goesL_ (some 50) rfl rfl Tryd.func7 (by kernel_rfl) rfl #[.agg #[.int .u64 ((rd_T26 l1 x12_1).f0), .int .u64 ((rd_T26 l1 x12_1).f1)]] rfl (by (try simp only [List.map_toArray, List.map_cons, List.map_nil]); first | done | rfl | (simp only [List.length_drop, List.length_take]; rfl)) ?_; (with_reducible refine (spec_Nodes.calls k1 ((rd_T26 l1 x12_1).f0) ((rd_T26 l1 x12_1).f1) t244 _ A47.out).mono ?_); rintro e w56 ⟨v245, rfl, ho0, hb⟩; refine ⟨_, rfl, ?_⟩; have n0_ := Aside0.mk (Kd.R_elder' (by (with_reducible repeat (first | apply Kd.R_alloc | apply Kd.R_drewN | apply Kd.R_drew)); exact (Kd.R_mono (Kd.R_far (p := ⟨gb233, 1, none⟩) (Kd.R_far (p := ⟨gb233, 0, none⟩) (Kd.R_types HO_232000.out BK233.out (by decide)) (fun _ hk => hk.2) (.int .u64 ((rd_T26 l1 x12_1).f0))) (fun _ hk => hk.2) (.int .u64 ((rd_T26 l1 x12_1).f1))) (fun _ h_ => h_.1))) (Kd.R_base ho0) hb); have n1_ := Aside0.mk (Kd.R_lower (Kd.R_new' ho0 (Kd.R_lt (by (with_reducible repeat (first | apply Kd.R_alloc | apply Kd.R_drewN | apply Kd.R_drew)); exact (Kd.R_mono (Kd.R_far (p := ⟨gb233, 1, none⟩) (Kd.R_far (p := ⟨gb233, 0, none⟩) (Kd.R_types HO_232000.out BK233.out (by decide)) (fun _ hk => hk.2) (.int .u64 ((rd_T26 l1 x12_1).f0))) (fun _ hk => hk.2) (.int .u64 ((rd_T26 l1 x12_1).f1))) (fun _ h_ => h_.1))))) (below_size (by repeat (first | (with_reducible first | exact HB.out | apply below_alloc | apply pw_below_drewN | apply below_drew1 | refine below_set ?_ GE229.out | refine below_set ?_ GE230.out | refine below_set ?_ GE231.out | refine below_set ?_ GE233.out) | exact HB.out)))); have n2_ := Aside0.mk (blk_below (g := gb229) (o := .cells #[.int .u64 x230000_1, .int .u64 x230001_1] 26 (0, 0)) (by (with_reducible repeat (first | refine blk_drewN ?_ _ | refine blk_drew ?_ | refine blk_alloc ?_ _)); refine blk_far ?_ NB229_233.out _; (with_reducible repeat (first | refine blk_drewN ?_ _ | refine blk_drew ?_ | refine blk_alloc ?_ _)); refine blk_far ?_ NB229_233.out _; (with_reducible repeat (first | refine blk_drewN ?_ _ | refine blk_drew ?_ | refine blk_alloc ?_ _)); exact BK229.out) hb); have n3_ := Aside0.mk (blk_below (g := gb230) (o := .cells #[.slice none 0 0, .int .u64 0, .int .u64 0, .int .i64 0, .int .i64 0] 38 (0, 0)) (by (with_reducible repeat (first | refine blk_drewN ?_ _ | refine blk_drew ?_ | refine blk_alloc ?_ _)); refine blk_far ?_ NB230_233.out _; (with_reducible repeat (first | refine blk_drewN ?_ _ | refine blk_drew ?_ | refine blk_alloc ?_ _)); refine blk_far ?_ NB230_233.out _; (with_reducible repeat (first | refine blk_drewN ?_ _ | refine blk_drew ?_ | refine blk_alloc ?_ _)); exact BK230.out) hb); have n4_ := Aside0.mk (blk_below (g := gb231) (o := .cells #[u232000, .int .u64 0, .int .u64 0, .int .i64 x232003_1, .int .i64 x232004_1] 38 (0, 0)) (by (with_reducible repeat (first | refine blk_drewN ?_ _ | refine blk_drew ?_ | refine blk_alloc ?_ _)); refine blk_far ?_ NB231_233.out _; (with_reducible repeat (first | refine blk_drewN ?_ _ | refine blk_drew ?_ | refine blk_alloc ?_ _)); refine blk_far ?_ NB231_233.out _; (with_reducible repeat (first | refine blk_drewN ?_ _ | refine blk_drew ?_ | refine blk_alloc ?_ _)); exact BK231.out) hb); have n5_ := Aside0.mk (blk_below (g := gb233) (o := .cells #[.int .u64 ((rd_T26 l1 x12_1).f0), .int .u64 ((rd_T26 l1 x12_1).f1)] 26 (0, 0)) (by (with_reducible repeat (first | refine blk_drewN ?_ _ | refine blk_drew ?_ | refine blk_alloc ?_ _)); refine blk_put (cs := #[.int .u64 ((rd_T26 l1 x12_1).f0), .int .u64 0]) ?_ 1 _ rfl; (with_reducible repeat (first | refine blk_drewN ?_ _ | refine blk_drew ?_ | refine blk_alloc ?_ _)); refine blk_put (cs := #[.int .u64 0, .int .u64 0]) ?_ 0 _ rfl; (with_reducible repeat (first | refine blk_drewN ?_ _ | refine blk_drew ?_ | refine blk_alloc ?_ _)); exact BK233.out) hb); have n6_ := Aside0.mk (below_step (by repeat (first | (with_reducible first | exact HB.out | apply below_alloc | apply pw_below_drewN | apply below_drew1 | refine below_set ?_ GE229.out | refine below_set ?_ GE230.out | refine below_set ?_ GE231.out | refine below_set ?_ GE233.out) | exact HB.out)) hb); clear HO_232000; clear BK229; clear BK230; clear BK231; clear BK233; clear HB; have HO_232000 := n0_; have HO246 := n1_; have BK229 := n2_; have BK230 := n3_; have BK231 := n4_; have BK233 := n5_; have HB := n6_; clear n0_ n1_ n2_ n3_ n4_ n5_ n6_; (try clear hb); (try clear hb2); (try clear hk); (try clear hi); (try clear ho0); have hnb57 := NB231_230.out; have hnc57 := NB230_231.out; have hcz58_0 : w56.cell? ⟨gb231, 0, none⟩ = some (u232000) := (blk_cell BK231.out 0).trans rfl; have hcz58_1 : w56.cell? ⟨gb231, 1, none⟩ = some (.int .u64 0) := (blk_cell BK231.out 1).trans rfl; have hcz58_2 : w56.cell? ⟨gb231, 2, none⟩ = some (.int .u64 0) := (blk_cell BK231.out 2).trans rfl; have hcz58_3 : w56.cell? ⟨gb231, 3, none⟩ = some (.int .i64 x232003_1) := (blk_cell BK231.out 3).trans rfl; have hcz58_4 : w56.cell? ⟨gb231, 4, none⟩ = some (.int .i64 x232004_1) := (blk_cell BK231.out 4).trans rfl; have hfz58_0 := blk_frozen BK231.out 0; have hfz58_1 := blk_frozen BK231.out 1; have hfz58_2 := blk_frozen BK231.out 2; have hfz58_3 := blk_frozen BK231.out 3; have hfz58_4 := blk_frozen BK231.out 4; obtain ⟨Ao59, co59, eo59⟩ := Kd.R_slice HO_232000.out; subst eo59; obtain ⟨Ao60, co60, eo60⟩ := Kd.R_slice HO246.out; subst eo60))
                try simp only [Act.put, List.setIfInBounds_toArray, List.set_cons_zero, List.set_cons_succ]
                go_loopg [9] k1 (fun kq v9 w' => ∃ (x9_2 : Int) (x232000_2 : List (S36)) (u232000 : Value), v9 = .int .i64 x9_2 ∧ Aside0 (spec_proofOf.l1 kq t244 x9_2 l1 (l1.length : Int) x12_1 x230000_1 x230001_1 x232000_2 0 0 (x232000_1.length : Int) (wrap64 ((x232000_1.length : Int) + (t244.length : Int))) ((rd_T26 l1 x12_1).f0) ((rd_T26 l1 x12_1).f1) = some (r1, r2, r3, r4, r5)) ∧ Aside0 (kq ≤ k1) ∧ Aside0 (Kd.R k36 36 w' w.heap.size (fun k_ => some k_ ≠ (u232000 : Value).ownBlock) (.slice Ao60 t244.length co60) t244) ∧ Aside0 (Kd.R k36 36 w' w.heap.size (fun k_ => some k_ ≠ ((.slice Ao60 t244.length co60) : Value).ownBlock) u232000 x232000_2) ∧ Aside0 (w'.heap[gb229]? = some (.cells #[.int .u64 x230000_1, .int .u64 x230001_1] 26 (0, 0))) ∧ Aside0 (w'.heap[gb230]? = some (.cells #[(.slice none 0 0), .int .u64 0, .int .u64 0, .int .i64 0, .int .i64 0] 38 (0, 0))) ∧ Aside0 (w'.heap[gb231]? = some (.cells #[u232000, .int .u64 0, .int .u64 0, .int .i64 (x232000_1.length : Int), .int .i64 (wrap64 ((x232000_1.length : Int) + (t244.length : Int)))] 38 (0, 0))) ∧ Aside0 (w'.heap[gb233]? = some (.cells #[.int .u64 ((rd_T26 l1 x12_1).f0), .int .u64 ((rd_T26 l1 x12_1).f1)] 26 (0, 0))) ∧ Aside0 (Below w.heap.size w w'))
                case atStart => exact ⟨(wrap64 ((t244.length : Int) - 1)), (x232000_1), (.slice Ao59 x232000_1.length co59), (by first | rfl | (simp; done) | (simp [*]; done)), H', ⟨Nat.le_refl _⟩, ⟨by (with_reducible repeat (first | apply Kd.R_alloc | apply Kd.R_drewN | apply Kd.R_drew)); exact Kd.R_mono (Kd.R_far (p := ⟨gb231, 4, none⟩) (Kd.R_far (p := ⟨gb231, 3, none⟩) (Kd.R_types HO246.out BK231.out (by decide)) (fun _ hk => hk.2) (.int .i64 (x232000_1.length : Int))) (fun _ hk => hk.2) (.int .i64 (wrap64 ((x232000_1.length : Int) + (t244.length : Int))))) (fun _ hk => hk.1.2)⟩, ⟨by (with_reducible repeat (first | apply Kd.R_alloc | apply Kd.R_drewN | apply Kd.R_drew)); exact Kd.R_mono (Kd.R_far (p := ⟨gb231, 4, none⟩) (Kd.R_far (p := ⟨gb231, 3, none⟩) (Kd.R_types HO_232000.out BK231.out (by decide)) (fun _ hk => hk.2) (.int .i64 (x232000_1.length : Int))) (fun _ hk => hk.2) (.int .i64 (wrap64 ((x232000_1.length : Int) + (t244.length : Int))))) (fun _ hk => hk.1.2)⟩, ⟨by (with_reducible repeat (first | refine blk_drewN ?_ _ | refine blk_drew ?_ | refine blk_alloc ?_ _)); refine blk_far ?_ NB229_231.out _; (with_reducible repeat (first | refine blk_drewN ?_ _ | refine blk_drew ?_ | refine blk_alloc ?_ _)); refine blk_far ?_ NB229_231.out _; (with_reducible repeat (first | refine blk_drewN ?_ _ | refine blk_drew ?_ | refine blk_alloc ?_ _)); exact BK229.out⟩, ⟨by (with_reducible repeat (first | refine blk_drewN ?_ _ | refine blk_drew ?_ | refine blk_alloc ?_ _)); refine blk_far ?_ NB230_231.out _; (with_reducible repeat (first | refine blk_drewN ?_ _ | refine blk_drew ?_ | refine blk_alloc ?_ _)); refine blk_far ?_ NB230_231.out _; (with_reducible repeat (first | refine blk_drewN ?_ _ | refine blk_drew ?_ | refine blk_alloc ?_ _)); exact BK230.out⟩, ⟨by (with_reducible repeat (first | refine blk_drewN ?_ _ | refine blk_drew ?_ | refine blk_alloc ?_ _)); refine blk_put (cs := #[.slice Ao59 x232000_1.length co59, .int .u64 0, .int .u64 0, .int .i64 (x232000_1.length : Int), .int .i64 x232004_1]) ?_ 4 _ rfl; (with_reducible repeat (first | refine blk_drewN ?_ _ | refine blk_drew ?_ | refine blk_alloc ?_ _)); refine blk_put (cs := #[.slice Ao59 x232000_1.length co59, .int .u64 0, .int .u64 0, .int .i64 x232003_1, .int .i64 x232004_1]) ?_ 3 _ rfl; (with_reducible repeat (first | refine blk_drewN ?_ _ | refine blk_drew ?_ | refine blk_alloc ?_ _)); exact BK231.out⟩, ⟨by (with_reducible repeat (first | refine blk_drewN ?_ _ | refine blk_drew ?_ | refine blk_alloc ?_ _)); refine blk_far ?_ NB233_231.out _; (with_reducible repeat (first | refine blk_drewN ?_ _ | refine blk_drew ?_ | refine blk_alloc ?_ _)); refine blk_far ?_ NB233_231.out _; (with_reducible repeat (first | refine blk_drewN ?_ _ | refine blk_drew ?_ | refine blk_alloc ?_ _)); exact BK233.out⟩, ⟨by repeat (first | (with_reducible first | exact HB.out | apply below_alloc | apply pw_below_drewN | apply below_drew1 | refine below_set ?_ GE229.out | refine below_set ?_ GE230.out | refine below_set ?_ GE231.out | refine below_set ?_ GE233.out) | exact HB.out)⟩⟩
                case round =>
                  clear H'
                  try clear c1
                  try clear c2
                  try clear p2
                  try clear q2
                  try clear hx2
                  try clear c3
                  try clear c4
                  try clear c5
                  try clear c6
                  try clear c6b0
                  try clear p6
                  try clear c7
                  try clear c7b0
                  try clear c8
                  try clear c8b0
                  try clear c9
                  try clear c9b0
                  try clear c9b1
                  try clear c11
                  try clear c13
                  try clear c14
                  try clear c15
                  try clear c17
                  try clear c18
                  try clear c23
                  try clear p23
                  try clear q23
                  try clear hx23
                  try clear c28
                  try clear c28b0
                  try clear c28b1
                  try clear c30
                  try clear c32
                  try clear c33
                  try clear c34
                  try clear c36
                  try clear c37
                  try clear c49
                  try clear c50
                  try clear c51
                  try clear c53
                  try clear c54
                  try clear c57
                  try clear hcz16_0
                  try clear hcz16_1
                  try clear hcz19_0
                  try clear hcz19_1
                  try clear hcz26_0
                  try clear hcz26_1
                  try clear hcz27_0
                  try clear hcz27_1
                  try clear hcz35_0
                  try clear hcz35_1
                  try clear hcz38_0
                  try clear hcz38_1
                  try clear hcz45_0
                  try clear hcz45_1
                  try clear hcz46_0
                  try clear hcz46_1
                  try clear hcz52_0
                  try clear hcz52_1
                  try clear hcz55_0
                  try clear hcz55_1
                  try clear hcz58_0
                  try clear hcz58_1
                  try clear hcz58_2
                  try clear hcz58_3
                  try clear hcz58_4
                  try clear hfz16_0
                  try clear hfz16_1
                  try clear hfz19_0
                  try clear hfz19_1
                  try clear hfz26_0
                  try clear hfz26_1
                  try clear hfz27_0
                  try clear hfz27_1
                  try clear hfz35_0
                  try clear hfz35_1
                  try clear hfz38_0
                  try clear hfz38_1
                  try clear hfz45_0
                  try clear hfz45_1
                  try clear hfz46_0
                  try clear hfz46_1
                  try clear hfz52_0
                  try clear hfz52_1
                  try clear hfz55_0
                  try clear hfz55_1
                  try clear hfz58_0
                  try clear hfz58_1
                  try clear hfz58_2
                  try clear hfz58_3
                  try clear hfz58_4
                  try clear hx232_0
                  try clear hx232_1
                  try clear p2
                  try clear p232
                  try clear q232
                  obtain ⟨x9_2, x232000_2, u232000, rfl, HA, HK2, HO_8, HO_232000, BK229, BK230, BK231, BK233, HB⟩ := hrel
                  cases gk with
                  | zero => exact absurd HA.out (by simp [spec_proofOf.l1])
                  | succ k2 =>
                    have H := HA.out
                    clear HA
                    simp only [spec_proofOf.l1] at H
                    by_cases c61 : x9_2 ≥ 0
                    · rw [if_pos c61] at H
                      have c61b0 : decide (0 ≤ x9_2) = true := decide_eq_true c61
                      clear c61
                      by_cases c62 : 0 ≤ x9_2
                      · rw [if_pos c62] at H
                        have c62b0 : decide (0 ≤ x9_2) = true := decide_eq_true c62
                        clear c62
                        by_cases c63 : x9_2 < (t244.length : Int)
                        · rw [if_pos c63] at H
                          have c63b0 : decide (x9_2 < (t244.length : Int)) = true := decide_eq_true c63
                          clear c63
                          by_cases c64 : x232000_2.length < 8796093022208
                          · rw [if_pos c64] at H
                            have LMc64 := Aside0.mk c64
                            clear c64
                            obtain ⟨y248, hy248⟩ : ∃ y_ : List (S36), y_ = (x232000_2 ++ [(⟨(rd_T36 t244 x9_2).f0, (rd_T36 t244 x9_2).f1⟩ : S36)]) := ⟨_, rfl⟩
                            replace H : (spec_proofOf.l1 k2 t244 (wrap64 (x9_2 - 1)) l1 (l1.length : Int) x12_1 x230000_1 x230001_1 y248 0 0 (x232000_1.length : Int) (wrap64 ((x232000_1.length : Int) + (t244.length : Int))) ((rd_T26 l1 x12_1).f0) ((rd_T26 l1 x12_1).f1)) = some (r1, r2, r3, r4, r5) := by first | (rw [hy248]; with_reducible exact H) | (have H2_ := (Option.bind_some _ _).symm.trans H; rw [hy248]; with_reducible exact H2_) | (have H2_ := (Option.bind_some _ _).symm.trans H; with_reducible exact H2_) | with_reducible exact H | (rw [hy248]; exact H) | exact H
                            have Ny248 := Aside0.mk hy248
                            clear hy248
                            have H' := Aside0.mk H
                            clear H
                            try go_wp2
                            (try (rw [drewN_self wr]; generalize hq_ : World.drewN wr _ = wr; have n0_ : Aside0 (Kd.R k36 36 wr w.heap.size (fun k_ => some k_ ≠ (.slice Ao60 t244.length co60 : Value).ownBlock) u232000 x232000_2) := ⟨by rw [← hq_]; exact (by (with_reducible repeat (first | apply Kd.R_alloc | apply Kd.R_drewN | apply Kd.R_drew)); exact HO_232000.out)⟩; have n1_ : Aside0 (Kd.R k36 36 wr w.heap.size (fun k_ => some k_ ≠ (u232000 : Value).ownBlock) (.slice Ao60 t244.length co60) t244) := ⟨by rw [← hq_]; exact (by (with_reducible repeat (first | apply Kd.R_alloc | apply Kd.R_drewN | apply Kd.R_drew)); exact HO_8.out)⟩; have n2_ : Aside0 (wr.heap[gb229]? = some (.cells #[.int .u64 x230000_1, .int .u64 x230001_1] 26 (0, 0))) := ⟨by rw [← hq_]; exact (by (with_reducible repeat (first | refine blk_drewN ?_ _ | refine blk_drew ?_ | refine blk_alloc ?_ _)); exact BK229.out)⟩; have n3_ : Aside0 (wr.heap[gb230]? = some (.cells #[.slice none 0 0, .int .u64 0, .int .u64 0, .int .i64 0, .int .i64 0] 38 (0, 0))) := ⟨by rw [← hq_]; exact (by (with_reducible repeat (first | refine blk_drewN ?_ _ | refine blk_drew ?_ | refine blk_alloc ?_ _)); exact BK230.out)⟩; have n4_ : Aside0 (wr.heap[gb231]? = some (.cells #[u232000, .int .u64 0, .int .u64 0, .int .i64 (x232000_1.length : Int), .int .i64 (wrap64 ((x232000_1.length : Int) + (t244.length : Int)))] 38 (0, 0))) := ⟨by rw [← hq_]; exact (by (with_reducible repeat (first | refine blk_drewN ?_ _ | refine blk_drew ?_ | refine blk_alloc ?_ _)); exact BK231.out)⟩; have n5_ : Aside0 (wr.heap[gb233]? = some (.cells #[.int .u64 ((rd_T26 l1 x12_1).f0), .int .u64 ((rd_T26 l1 x12_1).f1)] 26 (0, 0))) := ⟨by rw [← hq_]; exact (by (with_reducible repeat (first | refine blk_drewN ?_ _ | refine blk_drew ?_ | refine blk_alloc ?_ _)); exact BK233.out)⟩; have n6_ : Aside0 (Below w.heap.size w wr) := ⟨by rw [← hq_]; exact (by repeat (first | (with_reducible first | exact HB.out | apply below_alloc | apply pw_below_drewN | apply below_drew1 | refine below_set ?_ GE229.out | refine below_set ?_ GE230.out | refine below_set ?_ GE231.out | refine below_set ?_ GE233.out) | exact HB.out))⟩; clear HO_232000 HO_8 BK229 BK230 BK231 BK233 HB hq_; have HO_232000 := n0_; have HO_8 := n1_; have BK229 := n2_; have BK230 := n3_; have BK231 := n4_; have BK233 := n5_; have HB := n6_; clear n0_ n1_ n2_ n3_ n4_ n5_ n6_))
                            have n0_ := Aside0.mk (Kd.R_drew HO_8.out)
                            have n1_ := Aside0.mk (Kd.R_drew HO_232000.out)
                            have n2_ := Aside0.mk (blk_drew BK229.out)
                            have n3_ := Aside0.mk (blk_drew BK230.out)
                            have n4_ := Aside0.mk (blk_drew BK231.out)
                            have n5_ := Aside0.mk (blk_drew BK233.out)
                            have n6_ := Aside0.mk (below_drew1 HB.out)
                            clear HO_8
                            clear HO_232000
                            clear BK229
                            clear BK230
                            clear BK231
                            clear BK233
                            clear HB
                            have HO_8 := n0_
                            have HO_232000 := n1_
                            have BK229 := n2_
                            have BK230 := n3_
                            have BK231 := n4_
                            have BK233 := n5_
                            have HB := n6_
                            clear n0_ n1_ n2_ n3_ n4_ n5_ n6_
                            have p247 : 0 ≤ (x9_2 : Int) := of_decide_eq_true (by first | (with_reducible assumption) | assumption)
                            have q247 : x9_2 < (t244.length : Int) := of_decide_eq_true (by first | (with_reducible assumption) | assumption)
                            obtain ⟨ad247, e247, hx247_0, hx247_1⟩ := at_T36 (Kd.R_reads' HO_8.out).2.2 x9_2 p247 q247
                            cases e247
                            replace p247 := eq_true p247
                            replace q247 := eq_true q247
                            refine start_ (n := 10) (S := fun w' => w'.cell? ⟨gb231, 0, none⟩ = some (u232000) ∧ w'.cell? ⟨gb231, 1, none⟩ = some (.int .u64 0) ∧ w'.cell? ⟨gb231, 2, none⟩ = some (.int .u64 0) ∧ w'.cell? ⟨gb231, 3, none⟩ = some (.int .i64 (x232000_1.length : Int)) ∧ w'.cell? ⟨gb231, 4, none⟩ = some (.int .i64 (wrap64 ((x232000_1.length : Int) + (t244.length : Int)))) ∧ w'.cell? (ad247.add ((x9_2).toNat * 2)) = some (.int .u64 ((rd_T36 t244 x9_2).f0)) ∧ w'.cell? ⟨(ad247.add ((x9_2).toNat * 2)).block, (ad247.add ((x9_2).toNat * 2)).off + 1, none⟩ = some (.int .u64 ((rd_T36 t244 x9_2).f1))) (ds := [7, 9]) #[false, false, false, false, false, false, false, false, false, false] (by kernel_rfl) rfl rfl ⟨(blk_cell BK231.out 0).trans rfl, (blk_cell BK231.out 1).trans rfl, (blk_cell BK231.out 2).trans rfl, (blk_cell BK231.out 3).trans rfl, (blk_cell BK231.out 4).trans rfl, hx247_0, hx247_1⟩ (fun hHeld => ?_); refine with_tabW spec_proofOf.tab15 spec_proofOf.bits15 (fun HT_ HW_ => ?_)
                            generalize wr.drew = w65 at HO_8 HO_232000 BK229 BK230 BK231 BK233 HB hx247_0 hx247_1 hHeld ⊢
                            refine pure_ (i := 0) (N := some 69) (v := ?_) (a' := ?_) #[true, false, false, false, false, false, false, false, false, false] rfl rfl (any_of HT_.out (by kernel_rfl)) (fun _ _ _ h => h) (Or.inl ⟨by rfl, ?_⟩) ?_ ?_
                            rotate_left
                            · intro w'
                              go_simp
                              with_reducible rfl
                            rotate_left
                            · simp only [Act.put, List.setIfInBounds_toArray, List.set_cons_zero, List.set_cons_succ, i64_w, i32_w]
                              rfl
                            refine pure_ (i := 2) (N := some 71) (v := ?_) (a' := ?_) #[true, false, true, false, false, false, false, false, false, false] rfl rfl (any_of HT_.out (by kernel_rfl)) (fun _ _ _ h => h) (Or.inl ⟨by rfl, ?_⟩) ?_ ?_
                            rotate_left
                            · intro w'
                              go_simp
                              with_reducible rfl
                            rotate_left
                            · simp only [Act.put, List.setIfInBounds_toArray, List.set_cons_zero, List.set_cons_succ, i64_w, i32_w]
                              rfl
                            refine pure_ (i := 3) (N := some 72) (v := ?_) (a' := ?_) #[true, false, true, true, false, false, false, false, false, false] rfl rfl (any_of HT_.out (by kernel_rfl)) (fun _ _ _ h => h) (Or.inl ⟨by rfl, ?_⟩) ?_ ?_
                            rotate_left
                            · intro w'
                              go_simp
                              with_reducible rfl
                            rotate_left
                            · simp only [Act.put, List.setIfInBounds_toArray, List.set_cons_zero, List.set_cons_succ, i64_w, i32_w]
                              rfl
                            refine pure_ (i := 4) (N := some 73) (v := ?_) (a' := ?_) #[true, false, true, true, true, false, false, false, false, false] rfl rfl (any_of HT_.out (by kernel_rfl)) (fun _ _ _ h => h) (Or.inl ⟨by rfl, ?_⟩) ?_ ?_
                            rotate_left
                            · intro w'
                              go_simp
                              with_reducible rfl
                            rotate_left
                            · simp only [Act.put, List.setIfInBounds_toArray, List.set_cons_zero, List.set_cons_succ, i64_w, i32_w]
                              rfl
                            refine take_ (i := 1) (N := some 70) (v := ?_) (a' := ?_) #[true, true, true, true, true, false, false, false, false, false] rfl rfl (take_ofW HT_.out HW_.out (by kernel_rfl)) (fun _ _ _ h => h) (Or.inl ⟨by rfl, ?_⟩) hHeld ?_ ?_
                            rotate_left
                            · rintro w' ⟨s0, s1, s2, s3, s4, s5, s6⟩
                              go_simp
                              with_reducible rfl
                            rotate_left
                            · simp only [Act.put, List.setIfInBounds_toArray, List.set_cons_zero, List.set_cons_succ, i64_w, i32_w]
                              rfl
                            refine take_ (i := 5) (N := some 74) (v := ?_) (a' := ?_) #[true, true, true, true, true, true, false, false, false, false] rfl rfl (take_ofW HT_.out HW_.out (by kernel_rfl)) (fun _ _ _ h => h) (Or.inl ⟨by rfl, ?_⟩) hHeld ?_ ?_
                            rotate_left
                            · rintro w' ⟨s0, s1, s2, s3, s4, s5, s6⟩
                              go_simp
                              with_reducible rfl
                            rotate_left
                            · simp only [Act.put, List.setIfInBounds_toArray, List.set_cons_zero, List.set_cons_succ, i64_w, i32_w]
                              rfl
                            refine one_ (i := 6) (N := some 75) #[true, true, true, true, true, true, true, false, false, false] rfl rfl (one_of HT_.out (by kernel_rfl)) (by decide) (fun K hK => ?_)
                            refine value_ (w1 := ?_) (v := ?_) (by rfl) rfl ?_ ?_
                            rotate_left 2
                            · go_simp
                              constructor
                              · rfl
                              · rfl
                            refine hK.out _ _ ⟨(blk_cell (blk_alloc BK231.out _) 0).trans rfl, (blk_cell (blk_alloc BK231.out _) 1).trans rfl, (blk_cell (blk_alloc BK231.out _) 2).trans rfl, (blk_cell (blk_alloc BK231.out _) 3).trans rfl, (blk_cell (blk_alloc BK231.out _) 4).trans rfl, (World.cell?_alloc_lt _ _ _ (World.block_lt_of_cell? _ _ (hHeld.2.2.2.2.2.1))).trans (hHeld.2.2.2.2.2.1), (World.cell?_alloc_lt _ _ _ (World.block_lt_of_cell? _ _ (hHeld.2.2.2.2.2.2))).trans (hHeld.2.2.2.2.2.2)⟩ (fun hHeld => ?_)
                            clear hK K
                            refine norm_ (a' := ?_) ?_ ?_
                            rotate_left
                            · show Act.put _ (some 75) _ = _
                              simp only [Act.put, List.setIfInBounds_toArray, List.set_cons_zero, List.set_cons_succ, i64_w, i32_w]
                              rfl
                            refine last_ (i := 7) (N := some 76) #[true, true, true, true, true, true, true, true, false, false] rfl rfl (one_of HT_.out (by kernel_rfl)) (by decide) (fun K hK => ?_)
                            refine Kd.R_append_step k36 (w0 := w) w.heap.size (by rfl) (.tmp 70) (.tmp 75) 23 36 (.agg #[(.int .u64 0), (.int .u64 0)]) 16 rfl Tryd.underlying23 info36 rfl (by decide) (by omega) u232000 x232000_2 (⟨(rd_T36 t244 x9_2).f0, (rd_T36 t244 x9_2).f1⟩ : S36) [.int .u64 ((rd_T36 t244 x9_2).f0), .int .u64 ((rd_T36 t244 x9_2).f1)] (fun k_ => some k_ ≠ (.slice (some ad247) t244.length co60 : Value).ownBlock) (fun _ => False) rfl rfl ?aP (fun _ hk => hk.elim) ?aF ?aO ?aB ?aS ?aL ?_
                            (case aP => exact k36_mkM _ _ _ (⟨(rd_T36 t244 x9_2).f0, (rd_T36 t244 x9_2).f1⟩ : S36))
                            (case aB => exact (by repeat (first | (with_reducible first | exact HB.out | apply below_alloc | apply pw_below_drewN | apply below_drew1 | refine below_set ?_ GE229.out | refine below_set ?_ GE230.out | refine below_set ?_ GE231.out | refine below_set ?_ GE233.out) | exact HB.out)))
                            (case aF => exact (fun k_ hk => Kd.fresh' (Kd.R_lt (by (with_reducible repeat (first | apply Kd.R_alloc | apply Kd.R_drewN | apply Kd.R_drew)); exact HO_8.out)) k_ hk))
                            (case aO => exact (by (with_reducible repeat (first | apply Kd.R_alloc | apply Kd.R_drewN | apply Kd.R_drew)); exact HO_232000.out))
                            (case aS => exact (below_size (by repeat (first | (with_reducible first | exact HB.out | apply below_alloc | apply pw_below_drewN | apply below_drew1 | refine below_set ?_ GE229.out | refine below_set ?_ GE230.out | refine below_set ?_ GE231.out | refine below_set ?_ GE233.out) | exact HB.out))))
                            (case aL => have := LMc64.out; omega)
                            intro v249 w66 ho hb hg hat
                            rw [← Ny248.out] at ho
                            have n0_ := Aside0.mk (Kd.R_after (ok := (fun _ => True)) (by (with_reducible repeat (first | apply Kd.R_alloc | apply Kd.R_drewN | apply Kd.R_drew)); exact Kd.R_mono HO_8.out (fun _ hk => ⟨trivial, hk⟩)) hg hat)
                            have n1_ := Aside0.mk (blk_grown (g := gb229) (o := .cells #[.int .u64 x230000_1, .int .u64 x230001_1] 26 (0, 0)) (by (with_reducible repeat (first | refine blk_drewN ?_ _ | refine blk_drew ?_ | refine blk_alloc ?_ _)); exact BK229.out) hg (Kd.R_ne HO_232000.out BK229.out (by decide)))
                            have n2_ := Aside0.mk (blk_grown (g := gb230) (o := .cells #[.slice none 0 0, .int .u64 0, .int .u64 0, .int .i64 0, .int .i64 0] 38 (0, 0)) (by (with_reducible repeat (first | refine blk_drewN ?_ _ | refine blk_drew ?_ | refine blk_alloc ?_ _)); exact BK230.out) hg (Kd.R_ne HO_232000.out BK230.out (by decide)))
                            have n3_ := Aside0.mk (blk_grown (g := gb231) (o := .cells #[u232000, .int .u64 0, .int .u64 0, .int .i64 (x232000_1.length : Int), .int .i64 (wrap64 ((x232000_1.length : Int) + (t244.length : Int)))] 38 (0, 0)) (by (with_reducible repeat (first | refine blk_drewN ?_ _ | refine blk_drew ?_ | refine blk_alloc ?_ _)); exact BK231.out) hg (Kd.R_ne HO_232000.out BK231.out (by decide)))
                            have n4_ := Aside0.mk (blk_grown (g := gb233) (o := .cells #[.int .u64 ((rd_T26 l1 x12_1).f0), .int .u64 ((rd_T26 l1 x12_1).f1)] 26 (0, 0)) (by (with_reducible repeat (first | refine blk_drewN ?_ _ | refine blk_drew ?_ | refine blk_alloc ?_ _)); exact BK233.out) hg (Kd.R_ne HO_232000.out BK233.out (by decide)))
                            have n5_ := Aside0.mk (hb)
                            have n6_ := Aside0.mk (ho)
                            clear HO_8
                            clear BK229
                            clear BK230
                            clear BK231
                            clear BK233
                            clear HB
                            clear HO_232000
                            have HO_8 := n0_
                            have BK229 := n1_
                            have BK230 := n2_
                            have BK231 := n3_
                            have BK233 := n4_
                            have HB := n5_
                            have HO250 := n6_
                            clear n0_ n1_ n2_ n3_ n4_ n5_ n6_
                            clear ho hb hg hat
                            obtain ⟨Ao67, co67, eo67⟩ := Kd.R_slice HO250.out
                            (first | subst eo67 | (injection eo67 with f1_ f2_ f3_; have f4_ := f1_.symm; have f5_ := f3_.symm; clear f1_ f2_ f3_; subst f4_; subst f5_))
                            refine hK.out _ _ ?_
                            clear hK K
                            refine norm_ (a' := ?_) ?_ ?_
                            rotate_left
                            · show Act.put _ (some 76) _ = _
                              simp only [Act.put, List.setIfInBounds_toArray, List.set_cons_zero, List.set_cons_succ, i64_w, i32_w]
                              rfl
                            refine pure_ (i := 8) (N := some 77) (v := ?_) (a' := ?_) #[true, true, true, true, true, true, true, true, true, false] rfl rfl (any_of HT_.out (by kernel_rfl)) (fun _ _ _ h => h) (Or.inl ⟨by rfl, ?_⟩) ?_ ?_
                            rotate_left
                            · intro w'
                              go_simp
                              with_reducible rfl
                            rotate_left
                            · simp only [Act.put, List.setIfInBounds_toArray, List.set_cons_zero, List.set_cons_succ, i64_w, i32_w]
                              rfl
                            refine last_ (i := 9) (N := none) #[true, true, true, true, true, true, true, true, true, true] rfl rfl (one_of HT_.out (by kernel_rfl)) (by decide) (fun K hK => ?_)
                            have hs68 : w66.cell? ⟨gb231, 0, none⟩ = some (u232000) := (blk_cell BK231.out 0).trans rfl
                            have hfs68 := blk_frozen BK231.out 0
                            have hns68_0 := NB229_231.out
                            have hns68_1 := NB230_231.out
                            have hns68_3 := NB233_231.out
                            have hms68_0 := NB231_229.out
                            have hms68_1 := NB231_230.out
                            have hms68_3 := NB231_233.out
                            refine skip_ (w1 := ?_) (by rfl) rfl ?_ ?_
                            rotate_left
                            · go_simp
                              rfl
                            refine hK.out _ _ ?_
                            clear hK K
                            refine done_ (done_of HT_.out (by kernel_rfl)) ?_
                            try go_wp2
                            go_roundg k2
                            case measure => have := HK1.out; have := HK2.out; omega
                            case rel => exact ⟨(wrap64 (x9_2 - 1)), (y248), (.slice Ao67 y248.length co67), (by first | rfl | (simp; done) | (simp [*]; done)), H', ⟨by have := HK1.out; have := HK2.out; omega⟩, ⟨by (with_reducible repeat (first | apply Kd.R_alloc | apply Kd.R_drewN | apply Kd.R_drew)); exact Kd.R_mono (Kd.R_far (p := ⟨gb231, 0, none⟩) (Kd.R_types HO_8.out BK231.out (by decide)) (fun _ hk => hk.2) (.slice Ao67 y248.length co67)) (fun _ hk => hk.1.2)⟩, ⟨by (with_reducible repeat (first | apply Kd.R_alloc | apply Kd.R_drewN | apply Kd.R_drew)); exact Kd.R_mono (Kd.R_far (p := ⟨gb231, 0, none⟩) (Kd.R_types HO250.out BK231.out (by decide)) (fun _ hk => hk.2) (.slice Ao67 y248.length co67)) (fun _ hk => hk.1)⟩, ⟨by (with_reducible repeat (first | refine blk_drewN ?_ _ | refine blk_drew ?_ | refine blk_alloc ?_ _)); refine blk_far ?_ NB229_231.out _; (with_reducible repeat (first | refine blk_drewN ?_ _ | refine blk_drew ?_ | refine blk_alloc ?_ _)); exact BK229.out⟩, ⟨by (with_reducible repeat (first | refine blk_drewN ?_ _ | refine blk_drew ?_ | refine blk_alloc ?_ _)); refine blk_far ?_ NB230_231.out _; (with_reducible repeat (first | refine blk_drewN ?_ _ | refine blk_drew ?_ | refine blk_alloc ?_ _)); exact BK230.out⟩, ⟨by (with_reducible repeat (first | refine blk_drewN ?_ _ | refine blk_drew ?_ | refine blk_alloc ?_ _)); refine blk_put (cs := #[u232000, .int .u64 0, .int .u64 0, .int .i64 (x232000_1.length : Int), .int .i64 (wrap64 ((x232000_1.length : Int) + (t244.length : Int)))]) ?_ 0 _ rfl; (with_reducible repeat (first | refine blk_drewN ?_ _ | refine blk_drew ?_ | refine blk_alloc ?_ _)); exact BK231.out⟩, ⟨by (with_reducible repeat (first | refine blk_drewN ?_ _ | refine blk_drew ?_ | refine blk_alloc ?_ _)); refine blk_far ?_ NB233_231.out _; (with_reducible repeat (first | refine blk_drewN ?_ _ | refine blk_drew ?_ | refine blk_alloc ?_ _)); exact BK233.out⟩, ⟨by repeat (first | (with_reducible first | exact HB.out | apply below_alloc | apply pw_below_drewN | apply below_drew1 | refine below_set ?_ GE229.out | refine below_set ?_ GE230.out | refine below_set ?_ GE231.out | refine below_set ?_ GE233.out) | exact HB.out)⟩⟩
                          · rw [if_neg c64] at H
                            exact absurd H (by simp)
                        · rw [if_neg c63] at H
                          exact absurd H (by simp)
                      · rw [if_neg c62] at H
                        exact absurd H (by simp)
                    · rw [if_neg c61] at H
                      have c61b0 : decide (0 ≤ x9_2) = false := decide_eq_false c61
                      clear c61
                      have H' := Aside0.mk H
                      clear H
                      have hnb69 := NB233_229.out
                      have hnc69 := NB229_233.out
                      have hnb70 := NB233_230.out
                      have hnc70 := NB230_233.out
                      have hnb71 := NB233_231.out
                      have hnc71 := NB231_233.out
                      have hcz72_0 : wr.cell? ⟨gb233, 0, none⟩ = some (.int .u64 ((rd_T26 l1 x12_1).f0)) := (blk_cell BK233.out 0).trans rfl
                      have hcz72_1 : wr.cell? ⟨gb233, 1, none⟩ = some (.int .u64 ((rd_T26 l1 x12_1).f1)) := (blk_cell BK233.out 1).trans rfl
                      have hfz72_0 := blk_frozen BK233.out 0
                      have hfz72_1 := blk_frozen BK233.out 1
                      have hnb73 := NB229_230.out
                      have hnc73 := NB230_229.out
                      have hnb74 := NB229_231.out
                      have hnc74 := NB231_229.out
                      have hcz75_0 : wr.cell? ⟨gb229, 0, none⟩ = some (.int .u64 x230000_1) := (blk_cell BK229.out 0).trans rfl
                      have hcz75_1 : wr.cell? ⟨gb229, 1, none⟩ = some (.int .u64 x230001_1) := (blk_cell BK229.out 1).trans rfl
                      have hfz75_0 := blk_frozen BK229.out 0
                      have hfz75_1 := blk_frozen BK229.out 1
                      go_wp2
                      go_roundg k2
                      case measure => have := HK1.out; have := HK2.out; omega
                      case rel => exact ⟨(wrap64 (x12_1 + 1)), (x230000_1), (((rd_T26 l1 x12_1).f1)), (x232000_2), ((x232000_1.length : Int)), ((wrap64 ((x232000_1.length : Int) + (t244.length : Int)))), (u232000), (by first | rfl | (simp; done) | (simp [*]; done)), H', ⟨by have := HK1.out; have := HK2.out; omega⟩, ⟨by (with_reducible repeat (first | apply Kd.R_alloc | apply Kd.R_drewN | apply Kd.R_drew)); exact Kd.R_mono (Kd.R_far (p := ⟨gb229, 1, none⟩) (Kd.R_types HO_232000.out BK229.out (by decide)) (fun _ hk => hk.2) (.int .u64 ((rd_T26 l1 x12_1).f1))) (fun _ hk => trivial)⟩, ⟨by (with_reducible repeat (first | refine blk_drewN ?_ _ | refine blk_drew ?_ | refine blk_alloc ?_ _)); refine blk_put (cs := #[.int .u64 x230000_1, .int .u64 x230001_1]) ?_ 1 _ rfl; (with_reducible repeat (first | refine blk_drewN ?_ _ | refine blk_drew ?_ | refine blk_alloc ?_ _)); exact BK229.out⟩, ⟨by (with_reducible repeat (first | refine blk_drewN ?_ _ | refine blk_drew ?_ | refine blk_alloc ?_ _)); refine blk_far ?_ NB230_229.out _; (with_reducible repeat (first | refine blk_drewN ?_ _ | refine blk_drew ?_ | refine blk_alloc ?_ _)); exact BK230.out⟩, ⟨by (with_reducible repeat (first | refine blk_drewN ?_ _ | refine blk_drew ?_ | refine blk_alloc ?_ _)); refine blk_far ?_ NB231_229.out _; (with_reducible repeat (first | refine blk_drewN ?_ _ | refine blk_drew ?_ | refine blk_alloc ?_ _)); exact BK231.out⟩, ⟨by repeat (first | (with_reducible first | exact HB.out | apply below_alloc | apply pw_below_drewN | apply below_drew1 | refine below_set ?_ GE229.out | refine below_set ?_ GE230.out | refine below_set ?_ GE231.out | refine below_set ?_ GE233.out) | exact HB.out)⟩⟩
          · rw [if_neg c8] at H
            exact absurd H (by simp)
        · rw [if_neg c7] at H
          exact absurd H (by simp)
      · rw [if_neg c6] at H
        have c6b0 : decide (x12_1 < (l1.length : Int)) = false := decide_eq_false c6
        clear c6
        simp only [Option.some.injEq, Prod.mk.injEq] at H
        obtain ⟨rfl, rfl, rfl, rfl, rfl⟩ := H
        have hnb76 := NB231_229.out
        have hnc76 := NB229_231.out
        have hnb77 := NB231_230.out
        have hnc77 := NB230_231.out
        have hcz78_0 : wr.cell? ⟨gb231, 0, none⟩ = some (u232000) := (blk_cell BK231.out 0).trans rfl
        have hcz78_1 : wr.cell? ⟨gb231, 1, none⟩ = some (.int .u64 0) := (blk_cell BK231.out 1).trans rfl
        have hcz78_2 : wr.cell? ⟨gb231, 2, none⟩ = some (.int .u64 0) := (blk_cell BK231.out 2).trans rfl
        have hcz78_3 : wr.cell? ⟨gb231, 3, none⟩ = some (.int .i64 x232003_1) := (blk_cell BK231.out 3).trans rfl
        have hcz78_4 : wr.cell? ⟨gb231, 4, none⟩ = some (.int .i64 x232004_1) := (blk_cell BK231.out 4).trans rfl
        have hfz78_0 := blk_frozen BK231.out 0
        have hfz78_1 := blk_frozen BK231.out 1
        have hfz78_2 := blk_frozen BK231.out 2
        have hfz78_3 := blk_frozen BK231.out 3
        have hfz78_4 := blk_frozen BK231.out 4
        obtain ⟨Ao79, co79, eo79⟩ := Kd.R_slice HO_232000.out
        subst eo79
        have hnb80 := NB230_229.out
        have hnc80 := NB229_230.out
        have hcz81_0 : wr.cell? ⟨gb230, 0, none⟩ = some (.slice none 0 0) := (blk_cell BK230.out 0).trans rfl
        have hcz81_1 : wr.cell? ⟨gb230, 1, none⟩ = some (.int .u64 0) := (blk_cell BK230.out 1).trans rfl
        have hcz81_2 : wr.cell? ⟨gb230, 2, none⟩ = some (.int .u64 0) := (blk_cell BK230.out 2).trans rfl
        have hcz81_3 : wr.cell? ⟨gb230, 3, none⟩ = some (.int .i64 0) := (blk_cell BK230.out 3).trans rfl
        have hcz81_4 : wr.cell? ⟨gb230, 4, none⟩ = some (.int .i64 0) := (blk_cell BK230.out 4).trans rfl
        have hfz81_0 := blk_frozen BK230.out 0
        have hfz81_1 := blk_frozen BK230.out 1
        have hfz81_2 := blk_frozen BK230.out 2
        have hfz81_3 := blk_frozen BK230.out 3
        have hfz81_4 := blk_frozen BK230.out 4
        go_wp2
        refine bodyPost_ret (results_cell_row rfl _ _ gb230 38 #[.slice Ao79 x232000_1.length co79, .int .u64 0, .int .u64 0, .int .i64 x232003_1, .int .i64 x232004_1] (0, 0) _ rfl (by (with_reducible repeat (first | refine blk_drewN ?_ _ | refine blk_drew ?_ | refine blk_alloc ?_ _)); refine blk_put (cs := #[.slice Ao79 x232000_1.length co79, .int .u64 0, .int .u64 0, .int .i64 x232003_1, .int .i64 0]) ?_ 4 _ rfl; (with_reducible repeat (first | refine blk_drewN ?_ _ | refine blk_drew ?_ | refine blk_alloc ?_ _)); refine blk_put (cs := #[.slice Ao79 x232000_1.length co79, .int .u64 0, .int .u64 0, .int .i64 0, .int .i64 0]) ?_ 3 _ rfl; (with_reducible repeat (first | refine blk_drewN ?_ _ | refine blk_drew ?_ | refine blk_alloc ?_ _)); refine blk_put (cs := #[.slice Ao79 x232000_1.length co79, .int .u64 0, .int .u64 0, .int .i64 0, .int .i64 0]) ?_ 2 _ rfl; (with_reducible repeat (first | refine blk_drewN ?_ _ | refine blk_drew ?_ | refine blk_alloc ?_ _)); refine blk_put (cs := #[.slice Ao79 x232000_1.length co79, .int .u64 0, .int .u64 0, .int .i64 0, .int .i64 0]) ?_ 1 _ rfl; (with_reducible repeat (first | refine blk_drewN ?_ _ | refine blk_drew ?_ | refine blk_alloc ?_ _)); refine blk_put (cs := #[.slice none 0 0, .int .u64 0, .int .u64 0, .int .i64 0, .int .i64 0]) ?_ 0 _ rfl; (with_reducible repeat (first | refine blk_drewN ?_ _ | refine blk_drew ?_ | refine blk_alloc ?_ _)); exact BK230.out) Tryd.underlying38 rfl (by kernel_rfl)) rfl ?_
        exact ⟨_, by first | rfl | (simp [errW_none, errW_some] <;> rfl) | (simp [*, errW_none, errW_some] <;> rfl), by (with_reducible repeat (first | apply Kd.R_alloc | apply Kd.R_drewN | apply Kd.R_drew)); exact Kd.R_mono (Kd.R_far (p := ⟨gb230, 4, none⟩) (Kd.R_far (p := ⟨gb230, 3, none⟩) (Kd.R_far (p := ⟨gb230, 2, none⟩) (Kd.R_far (p := ⟨gb230, 1, none⟩) (Kd.R_far (p := ⟨gb230, 0, none⟩) (Kd.R_types HO_232000.out BK230.out (by decide)) (fun _ hk => hk.2) (.slice Ao79 x232000_1.length co79)) (fun _ hk => hk.2) (.int .u64 0)) (fun _ hk => hk.2) (.int .u64 0)) (fun _ hk => hk.2) (.int .i64 x232003_1)) (fun _ hk => hk.2) (.int .i64 x232004_1)) (fun _ hk => trivial), by repeat (first | (with_reducible first | exact HB.out | apply below_alloc | apply pw_below_drewN | apply below_drew1 | refine below_set ?_ GE229.out | refine below_set ?_ GE230.out | refine below_set ?_ GE231.out) | exact HB.out)⟩

end Go.Proofs.YthfgegaakfgjkaaDoor.PAll
