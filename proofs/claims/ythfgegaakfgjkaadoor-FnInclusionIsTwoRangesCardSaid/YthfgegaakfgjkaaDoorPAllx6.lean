-- Written by a program of this session (wip/tools)
import Derived.Test.YthfgegaakfgjkaaDoorPAllx0
import Derived.Test.YthfgegaakfgjkaaDoorPAllx1
import Derived.Test.YthfgegaakfgjkaaDoorPAllx2
import Derived.Test.YthfgegaakfgjkaaDoorPAllx3
import Derived.Test.YthfgegaakfgjkaaDoorPAllx5
namespace Go.Proofs.YthfgegaakfgjkaaDoor.PAll
open Go.RowKit Go.Proofs.YthfgegaakfgjkaaDoorW.PrintWords Go.Proofs.YthfgegaakfgjkaaDoorW.PrintLast Go.Proofs.YthfgegaakfgjkaaDoorW.PrintMore
attribute [local go_sem] max2_int min2_int max_two min_two max_three min_three max_four min_four   -- for this text's walks alone
set_option linter.unusedVariables false
set_option linter.unusedSimpArgs false

attribute [local go_sem high] eqA36
/-! ### impl_fromProof: function 22 -/
def impl_fromProof.f (k : Nat) (l0_0 : List (S46)) (a0_1 : Int) (a0_2 : Int) (a0_3 : Int) (a0_4 : Int) : Option ((List (S36)) × Int × Int × Int × Int) := (proof_Nodes_Ephem.f l0_0 a0_1 a0_2 a0_3 a0_4).bind fun bt213 => ((impl_fromNodes.f k l0_0).bind fun t218 => ((impl_fromNode.f bt213.1 bt213.2.1).bind fun bt221 => (some (t218, bt221.1, bt221.2, bt213.2.2.1, bt213.2.2.2))))
theorem impl_fromProof.mono : ∀ a0 a1 a2 a3 a4 k, LeO (impl_fromProof.f k a0 a1 a2 a3 a4) (impl_fromProof.f (k + 1) a0 a1 a2 a3 a4) := by
  intro a0 a1 a2 a3 a4 k
  unfold impl_fromProof.f
  repeat' first
      | (with_reducible exact impl_fromNodes.mono _ _)
      | (with_reducible exact LeO.refl _)
      | (with_reducible exact LeO.none _)
      | (with_reducible refine LeO.ite ?_ ?_)
      | (with_reducible refine LeO.bind ?_ (fun _ => ?_))
      | exact impl_fromNodes.mono _ _
      | exact LeO.none _
      | refine LeO.ite ?_ ?_
      | refine LeO.bind ?_ (fun _ => ?_)
def impl_fromProof.T2 : Bool × List (List Nat × List Nat) := (true, [([], []), ([0], [0]), ([1], [1]), ([], []), ([3, 2], [3]), ([], []), ([], []), ([2, 4, 5, 6], [2, 4, 5, 6]), ([7, 4, 0, 1, 2, 3, 4, 5, 6, 7], [7])])
def impl_fromProof.B2 : List Nat := [0, 1, 3, 0, 15, 0, 0, 127, 255]
theorem impl_fromProof.tab2 : rtab .any (opsOf Tryd.f22 2) = impl_fromProof.T2 := by kernel_rfl
theorem impl_fromProof.bits2 : waitsOk impl_fromProof.T2.2 impl_fromProof.B2 = true := by kernel_rfl
set_option maxHeartbeats 8000000 in
set_option maxRecDepth 100000 in
theorem impl_fromProof.calls (k : Nat) (A0_0 : Option Addr) (c0_0 : Nat) (l0_0 : List (S46)) (a0_1 : Int) (a0_2 : Int) (a0_3 : Int) (a0_4 : Int) (r1 : List (S36)) (r2 : Int) (r3 : Int) (r4 : Int) (r5 : Int) (w : World) (hr0_0 : Kd.C k46 w A0_0 l0_0.length l0_0) (hc0_0 : l0_0.length ≤ c0_0) (h : impl_fromProof.f k l0_0 a0_1 a0_2 a0_3 a0_4 = some (r1, r2, r3, r4, r5)) :
    Calls Tryd.prog 22 #[.agg #[.slice A0_0 l0_0.length c0_0, .int .i64 a0_1, .int .i64 a0_2, .int .u64 a0_3, .int .u64 a0_4]] w fun e w' => ∃ v0_ : Value, e = .returned (.agg #[v0_, .int .u64 r2, .int .u64 r3, .int .i64 r4, .int .i64 r5]) ∧ Kd.R k36 36 w' w.heap.size (fun _ => True) v0_ r1 ∧ Below w.heap.size w w' := by
  have hu51 := Tryd.underlying51
  have hu38 := Tryd.underlying38
  have hu46 := Tryd.underlying46
  have HR0_0 := Aside0.mk hr0_0
  have HC0_0 := Aside0.mk hc0_0
  clear hr0_0 hc0_0
  have HB := Aside0.mk (Below.refl w.heap.size w)
  have H : ((proof_Nodes_Ephem.f l0_0 a0_1 a0_2 a0_3 a0_4).bind fun bt213 => ((impl_fromNodes.f k l0_0).bind fun t218 => ((impl_fromNode.f bt213.1 bt213.2.1).bind fun bt221 => (some (t218, bt221.1, bt221.2, bt213.2.2.1, bt213.2.2.2))))) = some (r1, r2, r3, r4, r5) := h
  clear h
  replace H := Option.bind_eq_some_iff.mp H
  obtain ⟨⟨t213, t214, t215, t216⟩, A20, H⟩ := H
  replace H : ((impl_fromNodes.f k l0_0).bind fun t218 => ((impl_fromNode.f t213 t214).bind fun bt221 => (some (t218, bt221.1, bt221.2, t215, t216)))) = some (r1, r2, r3, r4, r5) := H
  have A2 := Aside0.mk A20
  clear A20
  replace H := Option.bind_eq_some_iff.mp H
  obtain ⟨t218, A30, H⟩ := H
  replace H : ((impl_fromNode.f t213 t214).bind fun bt221 => (some (t218, bt221.1, bt221.2, t215, t216))) = some (r1, r2, r3, r4, r5) := H
  have A3 := Aside0.mk A30
  clear A30
  replace H := Option.bind_eq_some_iff.mp H
  obtain ⟨⟨t221, t222⟩, A40, H⟩ := H
  replace H : (some (t218, t221, t222, t215, t216)) = some (r1, r2, r3, r4, r5) := H
  have A4 := Aside0.mk A40
  clear A40
  simp only [Option.some.injEq, Prod.mk.injEq] at H
  obtain ⟨rfl, rfl, rfl, rfl, rfl⟩ := H
  go_enter Tryd.func22, Tryd.ntmps22
  try go_wp2_with (first | ((with_reducible refine gate_dst (N := 1) rfl ?_); refine box_event ?hg (N := 1) ?hd (cs := #[.slice A0_0 l0_0.length c0_0, .int .i64 a0_1, .int .i64 a0_2, .int .u64 a0_3, .int .u64 a0_4]) (t := 51) ?hr ?_; (case hd => rfl); (case hg => rfl); (case hr => first | (go_simp; done) | (go_simp; rfl)); intro gb211 hg w5 hbox hb; have n0_ := Aside0.mk (below_step (by repeat (first | (with_reducible first | exact HB.out | apply below_alloc | apply pw_below_drewN | apply below_drew1) | exact HB.out)) hb); have n1_ := Aside0.mk (hbox); have n2_ := Aside0.mk ((by rw [hg]; exact (below_size (by repeat (first | (with_reducible first | exact HB.out | apply below_alloc | apply pw_below_drewN | apply below_drew1) | exact HB.out))) : w.heap.size ≤ gb211)); have n3_ := Aside0.mk ((by rw [hg]; exact (below_size (by repeat (first | (with_reducible first | exact HB.out | apply below_alloc | apply pw_below_drewN | apply below_drew1) | exact HB.out))) : w.heap.size ≤ gb211)); clear HB; have HB := n0_; have BK211 := n1_; have GW211 := n2_; have GE211 := n3_; clear n0_ n1_ n2_ n3_; clear hb hbox hg) | ((with_reducible refine gate_dst (N := 2) rfl ?_); refine box_event ?hg (N := 2) ?hd (cs := #[.slice none 0 0, .int .u64 0, .int .u64 0, .int .i64 0, .int .i64 0]) (t := 38) ?hr ?_; (case hd => rfl); (case hg => rfl); (case hr => first | (go_simp; done) | (go_simp; rfl)); intro gb212 hg w6 hbox hb; have n0_ := Aside0.mk (blk_below (g := gb211) (o := .cells #[.slice A0_0 l0_0.length c0_0, .int .i64 a0_1, .int .i64 a0_2, .int .u64 a0_3, .int .u64 a0_4] 51 (0, 0)) (by (with_reducible repeat (first | refine blk_drewN ?_ _ | refine blk_drew ?_ | refine blk_alloc ?_ _)); exact BK211.out) hb); have n1_ := Aside0.mk (below_step (by repeat (first | (with_reducible first | exact HB.out | apply below_alloc | apply pw_below_drewN | apply below_drew1 | refine below_set ?_ GE211.out) | exact HB.out)) hb); have n2_ := Aside0.mk (hbox); have n3_ := Aside0.mk ((by rw [hg]; exact (below_size (by repeat (first | (with_reducible first | exact HB.out | apply below_alloc | apply pw_below_drewN | apply below_drew1 | refine below_set ?_ GE211.out) | exact HB.out))) : w.heap.size ≤ gb212)); have n4_ := Aside0.mk ((by rw [hg]; exact (below_size (by repeat (first | (with_reducible first | exact HB.out | apply below_alloc | apply pw_below_drewN | apply below_drew1 | refine below_set ?_ GE211.out) | exact HB.out))) : w.heap.size ≤ gb212)); have n5_ := Aside0.mk ((by rw [hg]; exact Nat.ne_of_lt (blk_lt (g := gb211) (o := .cells #[.slice A0_0 l0_0.length c0_0, .int .i64 a0_1, .int .i64 a0_2, .int .u64 a0_3, .int .u64 a0_4] 51 (0, 0)) (by (with_reducible repeat (first | refine blk_drewN ?_ _ | refine blk_drew ?_ | refine blk_alloc ?_ _)); exact BK211.out)) : gb211 ≠ gb212)); have n6_ := Aside0.mk ((by rw [hg]; exact Nat.ne_of_gt (blk_lt (g := gb211) (o := .cells #[.slice A0_0 l0_0.length c0_0, .int .i64 a0_1, .int .i64 a0_2, .int .u64 a0_3, .int .u64 a0_4] 51 (0, 0)) (by (with_reducible repeat (first | refine blk_drewN ?_ _ | refine blk_drew ?_ | refine blk_alloc ?_ _)); exact BK211.out)) : gb212 ≠ gb211)); clear BK211; clear HB; have BK211 := n0_; have HB := n1_; have BK212 := n2_; have GW212 := n3_; have GE212 := n4_; have NB211_212 := n5_; have NB212_211 := n6_; clear n0_ n1_ n2_ n3_ n4_ n5_ n6_; clear hb hbox hg; have hnb7 := NB211_212.out; have hnc7 := NB212_211.out; have hcz8_0 : w6.cell? ⟨gb211, 0, none⟩ = some (.slice A0_0 l0_0.length c0_0) := (blk_cell BK211.out 0).trans rfl; have hcz8_1 : w6.cell? ⟨gb211, 1, none⟩ = some (.int .i64 a0_1) := (blk_cell BK211.out 1).trans rfl; have hcz8_2 : w6.cell? ⟨gb211, 2, none⟩ = some (.int .i64 a0_2) := (blk_cell BK211.out 2).trans rfl; have hcz8_3 : w6.cell? ⟨gb211, 3, none⟩ = some (.int .u64 a0_3) := (blk_cell BK211.out 3).trans rfl; have hcz8_4 : w6.cell? ⟨gb211, 4, none⟩ = some (.int .u64 a0_4) := (blk_cell BK211.out 4).trans rfl; have hfz8_0 := blk_frozen BK211.out 0; have hfz8_1 := blk_frozen BK211.out 1; have hfz8_2 := blk_frozen BK211.out 2; have hfz8_3 := blk_frozen BK211.out 3; have hfz8_4 := blk_frozen BK211.out 4) | ((with_reducible refine gate_callee (f := 35) rfl ?_); refine goesL_ (some 8) rfl rfl Tryd.func35 (by kernel_rfl) rfl #[.agg #[.slice A0_0 l0_0.length c0_0, .int .i64 a0_1, .int .i64 a0_2, .int .u64 a0_3, .int .u64 a0_4]] rfl (by (try simp only [List.map_toArray, List.map_cons, List.map_nil]); first | done | rfl | (simp only [List.length_drop, List.length_take]; rfl)) ?_; (with_reducible refine (proof_Nodes_Ephem.calls _ _ l0_0 a0_1 a0_2 a0_3 a0_4 t213 t214 t215 t216 _ ?side1 ?side2 A2.out).mono ?_); (case side1 => repeat (first | exact (Kd.C_below HR0_0.out HB.out) | (with_reducible refine Kd.C_alloc ?_ _) | (with_reducible refine Kd.C_drewN ?_ _) | (with_reducible refine Kd.C_drew ?_))); (case side2 => exact HC0_0.out); rintro e w9 ⟨rfl, hb⟩; refine ⟨_, rfl, ?_⟩; have n0_ := Aside0.mk (blk_below (g := gb211) (o := .cells #[.slice A0_0 l0_0.length c0_0, .int .i64 a0_1, .int .i64 a0_2, .int .u64 a0_3, .int .u64 a0_4] 51 (0, 0)) (by (with_reducible repeat (first | refine blk_drewN ?_ _ | refine blk_drew ?_ | refine blk_alloc ?_ _)); exact BK211.out) hb); have n1_ := Aside0.mk (blk_below (g := gb212) (o := .cells #[.slice none 0 0, .int .u64 0, .int .u64 0, .int .i64 0, .int .i64 0] 38 (0, 0)) (by (with_reducible repeat (first | refine blk_drewN ?_ _ | refine blk_drew ?_ | refine blk_alloc ?_ _)); exact BK212.out) hb); have n2_ := Aside0.mk (below_step (by repeat (first | (with_reducible first | exact HB.out | apply below_alloc | apply pw_below_drewN | apply below_drew1 | refine below_set ?_ GE211.out | refine below_set ?_ GE212.out) | exact HB.out)) hb); clear BK211; clear BK212; clear HB; have BK211 := n0_; have BK212 := n1_; have HB := n2_; clear n0_ n1_ n2_; (try clear hb); (try clear hb2); (try clear hk); (try clear hi)) | ((with_reducible refine gate_dst (N := 3) rfl ?_); refine box_event ?hg (N := 3) ?hd (cs := #[.int .u64 0, .int .u64 0]) (t := 46) ?hr ?_; (case hd => rfl); (case hg => rfl); (case hr => first | (go_simp; done) | (go_simp; rfl)); intro gb217 hg w10 hbox hb; have n0_ := Aside0.mk (blk_below (g := gb211) (o := .cells #[.slice A0_0 l0_0.length c0_0, .int .i64 a0_1, .int .i64 a0_2, .int .u64 a0_3, .int .u64 a0_4] 51 (0, 0)) (by (with_reducible repeat (first | refine blk_drewN ?_ _ | refine blk_drew ?_ | refine blk_alloc ?_ _)); exact BK211.out) hb); have n1_ := Aside0.mk (blk_below (g := gb212) (o := .cells #[.slice none 0 0, .int .u64 0, .int .u64 0, .int .i64 0, .int .i64 0] 38 (0, 0)) (by (with_reducible repeat (first | refine blk_drewN ?_ _ | refine blk_drew ?_ | refine blk_alloc ?_ _)); exact BK212.out) hb); have n2_ := Aside0.mk (below_step (by repeat (first | (with_reducible first | exact HB.out | apply below_alloc | apply pw_below_drewN | apply below_drew1 | refine below_set ?_ GE211.out | refine below_set ?_ GE212.out) | exact HB.out)) hb); have n3_ := Aside0.mk (hbox); have n4_ := Aside0.mk ((by rw [hg]; exact (below_size (by repeat (first | (with_reducible first | exact HB.out | apply below_alloc | apply pw_below_drewN | apply below_drew1 | refine below_set ?_ GE211.out | refine below_set ?_ GE212.out) | exact HB.out))) : w.heap.size ≤ gb217)); have n5_ := Aside0.mk ((by rw [hg]; exact (below_size (by repeat (first | (with_reducible first | exact HB.out | apply below_alloc | apply pw_below_drewN | apply below_drew1 | refine below_set ?_ GE211.out | refine below_set ?_ GE212.out) | exact HB.out))) : w.heap.size ≤ gb217)); have n6_ := Aside0.mk ((by rw [hg]; exact Nat.ne_of_lt (blk_lt (g := gb211) (o := .cells #[.slice A0_0 l0_0.length c0_0, .int .i64 a0_1, .int .i64 a0_2, .int .u64 a0_3, .int .u64 a0_4] 51 (0, 0)) (by (with_reducible repeat (first | refine blk_drewN ?_ _ | refine blk_drew ?_ | refine blk_alloc ?_ _)); exact BK211.out)) : gb211 ≠ gb217)); have n7_ := Aside0.mk ((by rw [hg]; exact Nat.ne_of_gt (blk_lt (g := gb211) (o := .cells #[.slice A0_0 l0_0.length c0_0, .int .i64 a0_1, .int .i64 a0_2, .int .u64 a0_3, .int .u64 a0_4] 51 (0, 0)) (by (with_reducible repeat (first | refine blk_drewN ?_ _ | refine blk_drew ?_ | refine blk_alloc ?_ _)); exact BK211.out)) : gb217 ≠ gb211)); have n8_ := Aside0.mk ((by rw [hg]; exact Nat.ne_of_lt (blk_lt (g := gb212) (o := .cells #[.slice none 0 0, .int .u64 0, .int .u64 0, .int .i64 0, .int .i64 0] 38 (0, 0)) (by (with_reducible repeat (first | refine blk_drewN ?_ _ | refine blk_drew ?_ | refine blk_alloc ?_ _)); exact BK212.out)) : gb212 ≠ gb217)); have n9_ := Aside0.mk ((by rw [hg]; exact Nat.ne_of_gt (blk_lt (g := gb212) (o := .cells #[.slice none 0 0, .int .u64 0, .int .u64 0, .int .i64 0, .int .i64 0] 38 (0, 0)) (by (with_reducible repeat (first | refine blk_drewN ?_ _ | refine blk_drew ?_ | refine blk_alloc ?_ _)); exact BK212.out)) : gb217 ≠ gb212)); clear BK211; clear BK212; clear HB; have BK211 := n0_; have BK212 := n1_; have HB := n2_; have BK217 := n3_; have GW217 := n4_; have GE217 := n5_; have NB211_217 := n6_; have NB217_211 := n7_; have NB212_217 := n8_; have NB217_212 := n9_; clear n0_ n1_ n2_ n3_ n4_ n5_ n6_ n7_ n8_ n9_; clear hb hbox hg; have hnb11 := NB217_211.out; have hnc11 := NB211_217.out; have hnb12 := NB217_212.out; have hnc12 := NB212_217.out; have hcz13_0 : w10.cell? ⟨gb217, 0, none⟩ = some (.int .u64 0) := (blk_cell BK217.out 0).trans rfl; have hcz13_1 : w10.cell? ⟨gb217, 1, none⟩ = some (.int .u64 0) := (blk_cell BK217.out 1).trans rfl; have hfz13_0 := blk_frozen BK217.out 0; have hfz13_1 := blk_frozen BK217.out 1))
  have n0_ : Aside0 (((w10.setCell ⟨gb217, 0, none⟩ (.int .u64 t213)).setCell ⟨gb217, 1, none⟩ (.int .u64 t214)).heap[gb211]? = some (.cells #[.slice A0_0 l0_0.length c0_0, .int .i64 a0_1, .int .i64 a0_2, .int .u64 a0_3, .int .u64 a0_4] 51 (0, 0))) := ⟨by (with_reducible repeat (first | refine blk_drewN ?_ _ | refine blk_drew ?_ | refine blk_alloc ?_ _)); refine blk_far ?_ NB211_217.out _; (with_reducible repeat (first | refine blk_drewN ?_ _ | refine blk_drew ?_ | refine blk_alloc ?_ _)); refine blk_far ?_ NB211_217.out _; (with_reducible repeat (first | refine blk_drewN ?_ _ | refine blk_drew ?_ | refine blk_alloc ?_ _)); exact BK211.out⟩
  have n1_ : Aside0 (((w10.setCell ⟨gb217, 0, none⟩ (.int .u64 t213)).setCell ⟨gb217, 1, none⟩ (.int .u64 t214)).heap[gb212]? = some (.cells #[.slice none 0 0, .int .u64 0, .int .u64 0, .int .i64 0, .int .i64 0] 38 (0, 0))) := ⟨by (with_reducible repeat (first | refine blk_drewN ?_ _ | refine blk_drew ?_ | refine blk_alloc ?_ _)); refine blk_far ?_ NB212_217.out _; (with_reducible repeat (first | refine blk_drewN ?_ _ | refine blk_drew ?_ | refine blk_alloc ?_ _)); refine blk_far ?_ NB212_217.out _; (with_reducible repeat (first | refine blk_drewN ?_ _ | refine blk_drew ?_ | refine blk_alloc ?_ _)); exact BK212.out⟩
  have n2_ : Aside0 (((w10.setCell ⟨gb217, 0, none⟩ (.int .u64 t213)).setCell ⟨gb217, 1, none⟩ (.int .u64 t214)).heap[gb217]? = some (.cells #[.int .u64 t213, .int .u64 t214] 46 (0, 0))) := ⟨by (with_reducible repeat (first | refine blk_drewN ?_ _ | refine blk_drew ?_ | refine blk_alloc ?_ _)); refine blk_put (cs := #[.int .u64 t213, .int .u64 0]) ?_ 1 _ rfl; (with_reducible repeat (first | refine blk_drewN ?_ _ | refine blk_drew ?_ | refine blk_alloc ?_ _)); refine blk_put (cs := #[.int .u64 0, .int .u64 0]) ?_ 0 _ rfl; (with_reducible repeat (first | refine blk_drewN ?_ _ | refine blk_drew ?_ | refine blk_alloc ?_ _)); exact BK217.out⟩
  have n3_ : Aside0 (Below w.heap.size w ((w10.setCell ⟨gb217, 0, none⟩ (.int .u64 t213)).setCell ⟨gb217, 1, none⟩ (.int .u64 t214))) := ⟨by repeat (first | (with_reducible first | exact HB.out | apply below_alloc | apply pw_below_drewN | apply below_drew1 | refine below_set ?_ GE211.out | refine below_set ?_ GE212.out | refine below_set ?_ GE217.out) | exact HB.out)⟩
  (try clear BK211)
  (try clear BK212)
  (try clear BK217)
  (try clear HB)
  generalize ((w10.setCell ⟨gb217, 0, none⟩ (.int .u64 t213)).setCell ⟨gb217, 1, none⟩ (.int .u64 t214)) = w14 at n0_ n1_ n2_ n3_ ⊢
  have BK211 := n0_
  have BK212 := n1_
  have BK217 := n2_
  have HB := n3_
  clear n0_ n1_ n2_ n3_
  (try (rw [drewN_self w14]; generalize hq_ : World.drewN w14 _ = w14; have n0_ : Aside0 (w14.heap[gb211]? = some (.cells #[.slice A0_0 l0_0.length c0_0, .int .i64 a0_1, .int .i64 a0_2, .int .u64 a0_3, .int .u64 a0_4] 51 (0, 0))) := ⟨by rw [← hq_]; exact (by (with_reducible repeat (first | refine blk_drewN ?_ _ | refine blk_drew ?_ | refine blk_alloc ?_ _)); exact BK211.out)⟩; have n1_ : Aside0 (w14.heap[gb212]? = some (.cells #[.slice none 0 0, .int .u64 0, .int .u64 0, .int .i64 0, .int .i64 0] 38 (0, 0))) := ⟨by rw [← hq_]; exact (by (with_reducible repeat (first | refine blk_drewN ?_ _ | refine blk_drew ?_ | refine blk_alloc ?_ _)); exact BK212.out)⟩; have n2_ : Aside0 (w14.heap[gb217]? = some (.cells #[.int .u64 t213, .int .u64 t214] 46 (0, 0))) := ⟨by rw [← hq_]; exact (by (with_reducible repeat (first | refine blk_drewN ?_ _ | refine blk_drew ?_ | refine blk_alloc ?_ _)); exact BK217.out)⟩; have n3_ : Aside0 (Below w.heap.size w w14) := ⟨by rw [← hq_]; exact (by repeat (first | (with_reducible first | exact HB.out | apply below_alloc | apply pw_below_drewN | apply below_drew1 | refine below_set ?_ GE211.out | refine below_set ?_ GE212.out | refine below_set ?_ GE217.out) | exact HB.out))⟩; clear BK211 BK212 BK217 HB hq_; have BK211 := n0_; have BK212 := n1_; have BK217 := n2_; have HB := n3_; clear n0_ n1_ n2_ n3_))
  have n0_ := Aside0.mk (blk_drew BK211.out)
  have n1_ := Aside0.mk (blk_drew BK212.out)
  have n2_ := Aside0.mk (blk_drew BK217.out)
  have n3_ := Aside0.mk (below_drew1 HB.out)
  clear BK211
  clear BK212
  clear BK217
  clear HB
  have BK211 := n0_
  have BK212 := n1_
  have BK217 := n2_
  have HB := n3_
  clear n0_ n1_ n2_ n3_
  refine start_ (n := 9) (S := fun w' => w'.cell? ⟨gb211, 0, none⟩ = some (.slice A0_0 l0_0.length c0_0) ∧ w'.cell? ⟨gb211, 1, none⟩ = some (.int .i64 a0_1) ∧ w'.cell? ⟨gb211, 2, none⟩ = some (.int .i64 a0_2) ∧ w'.cell? ⟨gb211, 3, none⟩ = some (.int .u64 a0_3) ∧ w'.cell? ⟨gb211, 4, none⟩ = some (.int .u64 a0_4) ∧ w'.cell? ⟨gb217, 0, none⟩ = some (.int .u64 t213) ∧ w'.cell? ⟨gb217, 1, none⟩ = some (.int .u64 t214)) (ds := []) #[false, false, false, false, false, false, false, false, false] (by kernel_rfl) rfl rfl ⟨(blk_cell BK211.out 0).trans rfl, (blk_cell BK211.out 1).trans rfl, (blk_cell BK211.out 2).trans rfl, (blk_cell BK211.out 3).trans rfl, (blk_cell BK211.out 4).trans rfl, (blk_cell BK217.out 0).trans rfl, (blk_cell BK217.out 1).trans rfl⟩ (fun hHeld => ?_); refine with_tabW impl_fromProof.tab2 impl_fromProof.bits2 (fun HT_ HW_ => ?_)
  generalize w14.drew = w15 at BK211 BK212 BK217 HB hHeld ⊢
  refine pure_ (i := 0) (N := some 12) (v := ?_) (a' := ?_) #[true, false, false, false, false, false, false, false, false] rfl rfl (any_of HT_.out (by kernel_rfl)) (fun _ _ _ h => h) (Or.inl ⟨by rfl, ?_⟩) ?_ ?_
  rotate_left
  · intro w'
    go_simp
    with_reducible rfl
  rotate_left
  · simp only [Act.put, List.setIfInBounds_toArray, List.set_cons_zero, List.set_cons_succ, i64_w, i32_w]
    rfl
  refine pure_ (i := 5) (N := some 17) (v := ?_) (a' := ?_) #[true, false, false, false, false, true, false, false, false] rfl rfl (any_of HT_.out (by kernel_rfl)) (fun _ _ _ h => h) (Or.inl ⟨by rfl, ?_⟩) ?_ ?_
  rotate_left
  · intro w'
    go_simp
    with_reducible rfl
  rotate_left
  · simp only [Act.put, List.setIfInBounds_toArray, List.set_cons_zero, List.set_cons_succ, i64_w, i32_w]
    rfl
  refine pure_ (i := 6) (N := some 18) (v := ?_) (a' := ?_) #[true, false, false, false, false, true, true, false, false] rfl rfl (any_of HT_.out (by kernel_rfl)) (fun _ _ _ h => h) (Or.inl ⟨by rfl, ?_⟩) ?_ ?_
  rotate_left
  · intro w'
    go_simp
    with_reducible rfl
  rotate_left
  · simp only [Act.put, List.setIfInBounds_toArray, List.set_cons_zero, List.set_cons_succ, i64_w, i32_w]
    rfl
  refine take_ (i := 1) (N := some 13) (v := ?_) (a' := ?_) #[true, true, false, false, false, true, true, false, false] rfl rfl (take_ofW HT_.out HW_.out (by kernel_rfl)) (fun _ _ _ h => h) (Or.inl ⟨by rfl, ?_⟩) hHeld ?_ ?_
  rotate_left
  · rintro w' ⟨s0, s1, s2, s3, s4, s5, s6⟩
    go_simp
    with_reducible rfl
  rotate_left
  · simp only [Act.put, List.setIfInBounds_toArray, List.set_cons_zero, List.set_cons_succ, i64_w, i32_w]
    rfl
  refine take_ (i := 3) (N := some 15) (v := ?_) (a' := ?_) #[true, true, false, true, false, true, true, false, false] rfl rfl (take_ofW HT_.out HW_.out (by kernel_rfl)) (fun _ _ _ h => h) (Or.inl ⟨by rfl, ?_⟩) hHeld ?_ ?_
  rotate_left
  · rintro w' ⟨s0, s1, s2, s3, s4, s5, s6⟩
    go_simp
    with_reducible rfl
  rotate_left
  · simp only [Act.put, List.setIfInBounds_toArray, List.set_cons_zero, List.set_cons_succ, i64_w, i32_w]
    rfl
  refine one_ (i := 2) (N := some 14) #[true, true, true, true, false, true, true, false, false] rfl rfl (one_of HT_.out (by kernel_rfl)) (by decide) (fun K hK => ?_)
  refine goes_ Tryd.func19 (by kernel_rfl) rfl #[.slice A0_0 l0_0.length c0_0] (by rfl) rfl rfl (by (try simp only [List.map_toArray, List.map_cons, List.map_nil]); first | done | rfl | (simp only [List.length_drop, List.length_take]; rfl)) ?_
  with_reducible refine (impl_fromNodes.calls k _ _ l0_0 t218 _ ?side1 ?side2 A3.out).mono ?_
  (case side1 => repeat (first | exact (Kd.C_below HR0_0.out HB.out) | (with_reducible refine Kd.C_alloc ?_ _) | (with_reducible refine Kd.C_drewN ?_ _) | (with_reducible refine Kd.C_drew ?_)))
  (case side2 => exact HC0_0.out)
  rintro e w16 ⟨v219, rfl, ho0, hb⟩
  refine ⟨_, rfl, ?_⟩
  have n0_ := Aside0.mk (Kd.R_lower ho0 (below_size (by repeat (first | (with_reducible first | exact HB.out | apply below_alloc | apply pw_below_drewN | apply below_drew1 | refine below_set ?_ GE211.out | refine below_set ?_ GE212.out | refine below_set ?_ GE217.out) | exact HB.out))))
  have n1_ := Aside0.mk (blk_below (g := gb211) (o := .cells #[.slice A0_0 l0_0.length c0_0, .int .i64 a0_1, .int .i64 a0_2, .int .u64 a0_3, .int .u64 a0_4] 51 (0, 0)) (by (with_reducible repeat (first | refine blk_drewN ?_ _ | refine blk_drew ?_ | refine blk_alloc ?_ _)); exact BK211.out) hb)
  have n2_ := Aside0.mk (blk_below (g := gb212) (o := .cells #[.slice none 0 0, .int .u64 0, .int .u64 0, .int .i64 0, .int .i64 0] 38 (0, 0)) (by (with_reducible repeat (first | refine blk_drewN ?_ _ | refine blk_drew ?_ | refine blk_alloc ?_ _)); exact BK212.out) hb)
  have n3_ := Aside0.mk (blk_below (g := gb217) (o := .cells #[.int .u64 t213, .int .u64 t214] 46 (0, 0)) (by (with_reducible repeat (first | refine blk_drewN ?_ _ | refine blk_drew ?_ | refine blk_alloc ?_ _)); exact BK217.out) hb)
  have n4_ := Aside0.mk (below_step (by repeat (first | (with_reducible first | exact HB.out | apply below_alloc | apply pw_below_drewN | apply below_drew1 | refine below_set ?_ GE211.out | refine below_set ?_ GE212.out | refine below_set ?_ GE217.out) | exact HB.out)) hb)
  clear BK211
  clear BK212
  clear BK217
  clear HB
  have HO220 := n0_
  have BK211 := n1_
  have BK212 := n2_
  have BK217 := n3_
  have HB := n4_
  clear n0_ n1_ n2_ n3_ n4_
  (try clear hb)
  (try clear hb2)
  (try clear hk)
  (try clear hi)
  (try clear ho0)
  refine hK.out _ _ ⟨(blk_cell BK211.out 0).trans rfl, (blk_cell BK211.out 1).trans rfl, (blk_cell BK211.out 2).trans rfl, (blk_cell BK211.out 3).trans rfl, (blk_cell BK211.out 4).trans rfl, (blk_cell BK217.out 0).trans rfl, (blk_cell BK217.out 1).trans rfl⟩ (fun hHeld => ?_)
  clear hK K
  refine norm_ (a' := ?_) ?_ ?_
  rotate_left
  · show Act.put _ (some 14) _ = _
    simp only [Act.put, List.setIfInBounds_toArray, List.set_cons_zero, List.set_cons_succ, i64_w, i32_w]
    rfl
  refine one_ (i := 4) (N := some 16) #[true, true, true, true, true, true, true, false, false] rfl rfl (one_of HT_.out (by kernel_rfl)) (by decide) (fun K hK => ?_)
  refine goes_ Tryd.func29 (by kernel_rfl) rfl #[.agg #[.int .u64 t213, .int .u64 t214]] (by rfl) rfl rfl (by (try simp only [List.map_toArray, List.map_cons, List.map_nil]); first | done | rfl | (simp only [List.length_drop, List.length_take]; rfl)) ?_
  with_reducible refine (impl_fromNode.calls t213 t214 t221 t222 _ A4.out).mono ?_
  rintro e w17 ⟨rfl, hb⟩
  refine ⟨_, rfl, ?_⟩
  have n0_ := Aside0.mk (Kd.R_below (by (with_reducible repeat (first | apply Kd.R_alloc | apply Kd.R_drewN | apply Kd.R_drew)); exact HO220.out) hb)
  have n1_ := Aside0.mk (blk_below (g := gb211) (o := .cells #[.slice A0_0 l0_0.length c0_0, .int .i64 a0_1, .int .i64 a0_2, .int .u64 a0_3, .int .u64 a0_4] 51 (0, 0)) (by (with_reducible repeat (first | refine blk_drewN ?_ _ | refine blk_drew ?_ | refine blk_alloc ?_ _)); exact BK211.out) hb)
  have n2_ := Aside0.mk (blk_below (g := gb212) (o := .cells #[.slice none 0 0, .int .u64 0, .int .u64 0, .int .i64 0, .int .i64 0] 38 (0, 0)) (by (with_reducible repeat (first | refine blk_drewN ?_ _ | refine blk_drew ?_ | refine blk_alloc ?_ _)); exact BK212.out) hb)
  have n3_ := Aside0.mk (blk_below (g := gb217) (o := .cells #[.int .u64 t213, .int .u64 t214] 46 (0, 0)) (by (with_reducible repeat (first | refine blk_drewN ?_ _ | refine blk_drew ?_ | refine blk_alloc ?_ _)); exact BK217.out) hb)
  have n4_ := Aside0.mk (below_step (by repeat (first | (with_reducible first | exact HB.out | apply below_alloc | apply pw_below_drewN | apply below_drew1 | refine below_set ?_ GE211.out | refine below_set ?_ GE212.out | refine below_set ?_ GE217.out) | exact HB.out)) hb)
  clear HO220
  clear BK211
  clear BK212
  clear BK217
  clear HB
  have HO220 := n0_
  have BK211 := n1_
  have BK212 := n2_
  have BK217 := n3_
  have HB := n4_
  clear n0_ n1_ n2_ n3_ n4_
  (try clear hb)
  (try clear hb2)
  (try clear hk)
  (try clear hi)
  obtain ⟨Ao18, co18, eo18⟩ := Kd.R_slice HO220.out
  (first | subst eo18 | (injection eo18 with f1_ f2_ f3_; have f4_ := f1_.symm; have f5_ := f3_.symm; clear f1_ f2_ f3_; subst f4_; subst f5_))
  refine hK.out _ _ ⟨(blk_cell BK211.out 0).trans rfl, (blk_cell BK211.out 1).trans rfl, (blk_cell BK211.out 2).trans rfl, (blk_cell BK211.out 3).trans rfl, (blk_cell BK211.out 4).trans rfl, (blk_cell BK217.out 0).trans rfl, (blk_cell BK217.out 1).trans rfl⟩ (fun hHeld => ?_)
  clear hK K
  refine norm_ (a' := ?_) ?_ ?_
  rotate_left
  · show Act.put _ (some 16) _ = _
    simp only [Act.put, List.setIfInBounds_toArray, List.set_cons_zero, List.set_cons_succ, i64_w, i32_w]
    rfl
  refine pure_ (i := 7) (N := some 19) (v := ?_) (a' := ?_) #[true, true, true, true, true, true, true, true, false] rfl rfl (any_of HT_.out (by kernel_rfl)) (fun _ _ _ h => h) (Or.inl ⟨by rfl, ?_⟩) ?_ ?_
  rotate_left
  · intro w'
    go_simp
    with_reducible rfl
  rotate_left
  · simp only [Act.put, List.setIfInBounds_toArray, List.set_cons_zero, List.set_cons_succ, i64_w, i32_w]
    rfl
  refine one_ (i := 8) (N := none) #[true, true, true, true, true, true, true, true, true] rfl rfl (one_of HT_.out (by kernel_rfl)) (by decide) (fun K hK => ?_)
  have hs19 : w17.cell? ⟨gb212, 0, none⟩ = some (.slice none 0 0) := (blk_cell BK212.out 0).trans rfl
  have hfs19 := blk_frozen BK212.out 0
  have hns19_0 := NB211_212.out
  have hns19_2 := NB217_212.out
  have hms19_0 := NB212_211.out
  have hms19_2 := NB212_217.out
  have hs20 : w17.cell? ⟨gb212, 1, none⟩ = some (.int .u64 0) := (blk_cell BK212.out 1).trans rfl
  have hfs20 := blk_frozen BK212.out 1
  have hns20_0 := NB211_212.out
  have hns20_2 := NB217_212.out
  have hms20_0 := NB212_211.out
  have hms20_2 := NB212_217.out
  have hs21 : w17.cell? ⟨gb212, 2, none⟩ = some (.int .u64 0) := (blk_cell BK212.out 2).trans rfl
  have hfs21 := blk_frozen BK212.out 2
  have hns21_0 := NB211_212.out
  have hns21_2 := NB217_212.out
  have hms21_0 := NB212_211.out
  have hms21_2 := NB212_217.out
  have hs22 : w17.cell? ⟨gb212, 3, none⟩ = some (.int .i64 0) := (blk_cell BK212.out 3).trans rfl
  have hfs22 := blk_frozen BK212.out 3
  have hns22_0 := NB211_212.out
  have hns22_2 := NB217_212.out
  have hms22_0 := NB212_211.out
  have hms22_2 := NB212_217.out
  have hs23 : w17.cell? ⟨gb212, 4, none⟩ = some (.int .i64 0) := (blk_cell BK212.out 4).trans rfl
  have hfs23 := blk_frozen BK212.out 4
  have hns23_0 := NB211_212.out
  have hns23_2 := NB217_212.out
  have hms23_0 := NB212_211.out
  have hms23_2 := NB212_217.out
  refine skip_ (w1 := ?_) (by rfl) rfl ?_ ?_
  rotate_left
  · go_simp
    rfl
  refine hK.out _ _ ⟨((cell_far (p := ⟨gb212, _, none⟩) NB211_212.out _).trans (((cell_far (p := ⟨gb212, _, none⟩) NB211_212.out _).trans (((cell_far (p := ⟨gb212, _, none⟩) NB211_212.out _).trans (((cell_far (p := ⟨gb212, _, none⟩) NB211_212.out _).trans (((cell_far (p := ⟨gb212, _, none⟩) NB211_212.out _).trans (hHeld.1)))))))))), ((cell_far (p := ⟨gb212, _, none⟩) NB211_212.out _).trans (((cell_far (p := ⟨gb212, _, none⟩) NB211_212.out _).trans (((cell_far (p := ⟨gb212, _, none⟩) NB211_212.out _).trans (((cell_far (p := ⟨gb212, _, none⟩) NB211_212.out _).trans (((cell_far (p := ⟨gb212, _, none⟩) NB211_212.out _).trans (hHeld.2.1)))))))))), ((cell_far (p := ⟨gb212, _, none⟩) NB211_212.out _).trans (((cell_far (p := ⟨gb212, _, none⟩) NB211_212.out _).trans (((cell_far (p := ⟨gb212, _, none⟩) NB211_212.out _).trans (((cell_far (p := ⟨gb212, _, none⟩) NB211_212.out _).trans (((cell_far (p := ⟨gb212, _, none⟩) NB211_212.out _).trans (hHeld.2.2.1)))))))))), ((cell_far (p := ⟨gb212, _, none⟩) NB211_212.out _).trans (((cell_far (p := ⟨gb212, _, none⟩) NB211_212.out _).trans (((cell_far (p := ⟨gb212, _, none⟩) NB211_212.out _).trans (((cell_far (p := ⟨gb212, _, none⟩) NB211_212.out _).trans (((cell_far (p := ⟨gb212, _, none⟩) NB211_212.out _).trans (hHeld.2.2.2.1)))))))))), ((cell_far (p := ⟨gb212, _, none⟩) NB211_212.out _).trans (((cell_far (p := ⟨gb212, _, none⟩) NB211_212.out _).trans (((cell_far (p := ⟨gb212, _, none⟩) NB211_212.out _).trans (((cell_far (p := ⟨gb212, _, none⟩) NB211_212.out _).trans (((cell_far (p := ⟨gb212, _, none⟩) NB211_212.out _).trans (hHeld.2.2.2.2.1)))))))))), ((cell_far (p := ⟨gb212, _, none⟩) NB217_212.out _).trans (((cell_far (p := ⟨gb212, _, none⟩) NB217_212.out _).trans (((cell_far (p := ⟨gb212, _, none⟩) NB217_212.out _).trans (((cell_far (p := ⟨gb212, _, none⟩) NB217_212.out _).trans (((cell_far (p := ⟨gb212, _, none⟩) NB217_212.out _).trans (hHeld.2.2.2.2.2.1)))))))))), ((cell_far (p := ⟨gb212, _, none⟩) NB217_212.out _).trans (((cell_far (p := ⟨gb212, _, none⟩) NB217_212.out _).trans (((cell_far (p := ⟨gb212, _, none⟩) NB217_212.out _).trans (((cell_far (p := ⟨gb212, _, none⟩) NB217_212.out _).trans (((cell_far (p := ⟨gb212, _, none⟩) NB217_212.out _).trans (hHeld.2.2.2.2.2.2))))))))))⟩ (fun hHeld => ?_)
  clear hK K
  refine done_ (done_of HT_.out (by kernel_rfl)) ?_
  try go_wp2
  refine bodyPost_ret (results_cell_row rfl _ _ gb212 38 #[.slice Ao18 t218.length co18, .int .u64 t221, .int .u64 t222, .int .i64 t215, .int .i64 t216] (0, 0) _ rfl (by (with_reducible repeat (first | refine blk_drewN ?_ _ | refine blk_drew ?_ | refine blk_alloc ?_ _)); refine blk_put (cs := #[.slice Ao18 t218.length co18, .int .u64 t221, .int .u64 t222, .int .i64 t215, .int .i64 0]) ?_ 4 _ rfl; (with_reducible repeat (first | refine blk_drewN ?_ _ | refine blk_drew ?_ | refine blk_alloc ?_ _)); refine blk_put (cs := #[.slice Ao18 t218.length co18, .int .u64 t221, .int .u64 t222, .int .i64 0, .int .i64 0]) ?_ 3 _ rfl; (with_reducible repeat (first | refine blk_drewN ?_ _ | refine blk_drew ?_ | refine blk_alloc ?_ _)); refine blk_put (cs := #[.slice Ao18 t218.length co18, .int .u64 t221, .int .u64 0, .int .i64 0, .int .i64 0]) ?_ 2 _ rfl; (with_reducible repeat (first | refine blk_drewN ?_ _ | refine blk_drew ?_ | refine blk_alloc ?_ _)); refine blk_put (cs := #[.slice Ao18 t218.length co18, .int .u64 0, .int .u64 0, .int .i64 0, .int .i64 0]) ?_ 1 _ rfl; (with_reducible repeat (first | refine blk_drewN ?_ _ | refine blk_drew ?_ | refine blk_alloc ?_ _)); refine blk_put (cs := #[.slice none 0 0, .int .u64 0, .int .u64 0, .int .i64 0, .int .i64 0]) ?_ 0 _ rfl; (with_reducible repeat (first | refine blk_drewN ?_ _ | refine blk_drew ?_ | refine blk_alloc ?_ _)); exact BK212.out) Tryd.underlying38 rfl (by kernel_rfl)) rfl ?_
  exact ⟨_, by first | rfl | (simp [errW_none, errW_some] <;> rfl) | (simp [*, errW_none, errW_some] <;> rfl), by (with_reducible repeat (first | apply Kd.R_alloc | apply Kd.R_drewN | apply Kd.R_drew)); exact Kd.R_mono (Kd.R_far (p := ⟨gb212, 4, none⟩) (Kd.R_far (p := ⟨gb212, 3, none⟩) (Kd.R_far (p := ⟨gb212, 2, none⟩) (Kd.R_far (p := ⟨gb212, 1, none⟩) (Kd.R_far (p := ⟨gb212, 0, none⟩) (Kd.R_types HO220.out BK212.out (by decide)) (fun _ hk => hk.2) (.slice Ao18 t218.length co18)) (fun _ hk => hk.2) (.int .u64 t221)) (fun _ hk => hk.2) (.int .u64 t222)) (fun _ hk => hk.2) (.int .i64 t215)) (fun _ hk => hk.2) (.int .i64 t216)) (fun _ hk => trivial), by repeat (first | (with_reducible first | exact HB.out | apply below_alloc | apply pw_below_drewN | apply below_drew1 | refine below_set ?_ GE211.out | refine below_set ?_ GE212.out | refine below_set ?_ GE217.out) | exact HB.out)⟩

/-! ### spec_SameProof: function 14 -/
def spec_SameProof.f (k : Nat) (l0_0 : List (S36)) (a0_1 : Int) (a0_2 : Int) (a0_3 : Int) (a0_4 : Int) (l1_0 : List (S36)) (a1_1 : Int) (a1_2 : Int) (a1_3 : Int) (a1_4 : Int) : Option (Bool) := (spec_SameNodes.f k l0_0 l1_0).bind fun t225 => (if t225 = true then (if (a0_1 == a1_1 && (a0_2 == a1_2)) = true then (if a0_3 = a1_3 then (some (a0_4 == a1_4)) else (some false)) else (some false)) else (some false))
theorem spec_SameProof.mono : ∀ a0 a1 a2 a3 a4 a5 a6 a7 a8 a9 k, LeO (spec_SameProof.f k a0 a1 a2 a3 a4 a5 a6 a7 a8 a9) (spec_SameProof.f (k + 1) a0 a1 a2 a3 a4 a5 a6 a7 a8 a9) := by
  intro a0 a1 a2 a3 a4 a5 a6 a7 a8 a9 k
  unfold spec_SameProof.f
  repeat' first
      | (with_reducible exact spec_SameNodes.mono _ _ _)
      | (with_reducible exact LeO.refl _)
      | (with_reducible exact LeO.none _)
      | (with_reducible refine LeO.ite ?_ ?_)
      | (with_reducible refine LeO.bind ?_ (fun _ => ?_))
      | exact spec_SameNodes.mono _ _ _
      | exact LeO.none _
      | refine LeO.ite ?_ ?_
      | refine LeO.bind ?_ (fun _ => ?_)
set_option maxHeartbeats 8000000 in
set_option maxRecDepth 100000 in
theorem spec_SameProof.calls (k : Nat) (A0_0 : Option Addr) (c0_0 : Nat) (l0_0 : List (S36)) (a0_1 : Int) (a0_2 : Int) (a0_3 : Int) (a0_4 : Int) (A1_0 : Option Addr) (c1_0 : Nat) (l1_0 : List (S36)) (a1_1 : Int) (a1_2 : Int) (a1_3 : Int) (a1_4 : Int) (r : Bool) (w : World) (hr0_0 : Kd.C k36 w A0_0 l0_0.length l0_0) (hc0_0 : l0_0.length ≤ c0_0) (hr1_0 : Kd.C k36 w A1_0 l1_0.length l1_0) (hc1_0 : l1_0.length ≤ c1_0) (h : spec_SameProof.f k l0_0 a0_1 a0_2 a0_3 a0_4 l1_0 a1_1 a1_2 a1_3 a1_4 = some r) :
    Calls Tryd.prog 14 #[.agg #[.slice A0_0 l0_0.length c0_0, .int .u64 a0_1, .int .u64 a0_2, .int .i64 a0_3, .int .i64 a0_4], .agg #[.slice A1_0 l1_0.length c1_0, .int .u64 a1_1, .int .u64 a1_2, .int .i64 a1_3, .int .i64 a1_4]] w fun e w' => e = .returned (.bool r) ∧ Below w.heap.size w w' := by
  have hu38 := Tryd.underlying38
  have hu36 := Tryd.underlying36
  have HR0_0 := Aside0.mk hr0_0
  have HC0_0 := Aside0.mk hc0_0
  clear hr0_0 hc0_0
  have HR1_0 := Aside0.mk hr1_0
  have HC1_0 := Aside0.mk hc1_0
  clear hr1_0 hc1_0
  have HB := Aside0.mk (Below.refl w.heap.size w)
  have H : ((spec_SameNodes.f k l0_0 l1_0).bind fun t225 => (if t225 = true then (if (a0_1 == a1_1 && (a0_2 == a1_2)) = true then (if a0_3 = a1_3 then (some (a0_4 == a1_4)) else (some false)) else (some false)) else (some false))) = some r := h
  clear h
  replace H := Option.bind_eq_some_iff.mp H
  obtain ⟨t225, A30, H⟩ := H
  replace H : (if t225 = true then (if (a0_1 == a1_1 && (a0_2 == a1_2)) = true then (if a0_3 = a1_3 then (some (a0_4 == a1_4)) else (some false)) else (some false)) else (some false)) = some r := H
  have A3 := Aside0.mk A30
  clear A30
  by_cases c4 : t225 = true
  · subst c4
    have H1 : (if (a0_1 == a1_1 && (a0_2 == a1_2)) = true then (if a0_3 = a1_3 then (some (a0_4 == a1_4)) else (some false)) else (some false)) = some r := by rw [if_pos rfl] at H; exact H
    clear H
    have H := H1
    clear H1
    by_cases c5 : (a0_1 == a1_1 && (a0_2 == a1_2)) = true
    · rw [if_pos c5] at H
      have c5b0 : (a0_1 == a1_1 && (a0_2 == a1_2)) = true := c5
      (try (have c5b1 : decide (a0_1 = a1_1 && (a0_2 == a1_2)) = true := by simpa using c5))
      (try (have c5b2 : (a0_1 == a1_1 && (a0_2 == a1_2)) = true := by simpa using c5))
      clear c5
      by_cases c6 : a0_3 = a1_3
      · rw [if_pos c6] at H
        have c6b0 : (a0_3 == a1_3) = true := beq_iff_eq.mpr c6
        have c6b1 : (a0_3 != a1_3) = false := bne_eq_false_iff_eq.mpr c6
        clear c6
        obtain rfl := Option.some.inj H
        go_enter Tryd.func14, Tryd.ntmps14
        go_wp2_with (first | ((with_reducible refine gate_dst (N := 2) rfl ?_); refine box_event ?hg (N := 2) ?hd (cs := #[.slice A0_0 l0_0.length c0_0, .int .u64 a0_1, .int .u64 a0_2, .int .i64 a0_3, .int .i64 a0_4]) (t := 38) ?hr ?_; (case hd => rfl); (case hg => rfl); (case hr => first | (go_simp; done) | (go_simp; rfl)); intro gb223 hg w7 hbox hb; have n0_ := Aside0.mk (below_step (by repeat (first | (with_reducible first | exact HB.out | apply below_alloc | apply pw_below_drewN | apply below_drew1) | exact HB.out)) hb); have n1_ := Aside0.mk (hbox); have n2_ := Aside0.mk ((by rw [hg]; exact (below_size (by repeat (first | (with_reducible first | exact HB.out | apply below_alloc | apply pw_below_drewN | apply below_drew1) | exact HB.out))) : w.heap.size ≤ gb223)); have n3_ := Aside0.mk ((by rw [hg]; exact (below_size (by repeat (first | (with_reducible first | exact HB.out | apply below_alloc | apply pw_below_drewN | apply below_drew1) | exact HB.out))) : w.heap.size ≤ gb223)); clear HB; have HB := n0_; have BK223 := n1_; have GW223 := n2_; have GE223 := n3_; clear n0_ n1_ n2_ n3_; clear hb hbox hg) | ((with_reducible refine gate_dst (N := 3) rfl ?_); refine box_event ?hg (N := 3) ?hd (cs := #[.slice A1_0 l1_0.length c1_0, .int .u64 a1_1, .int .u64 a1_2, .int .i64 a1_3, .int .i64 a1_4]) (t := 38) ?hr ?_; (case hd => rfl); (case hg => rfl); (case hr => first | (go_simp; done) | (go_simp; rfl)); intro gb224 hg w8 hbox hb; have n0_ := Aside0.mk (blk_below (g := gb223) (o := .cells #[.slice A0_0 l0_0.length c0_0, .int .u64 a0_1, .int .u64 a0_2, .int .i64 a0_3, .int .i64 a0_4] 38 (0, 0)) (by (with_reducible repeat (first | refine blk_drewN ?_ _ | refine blk_drew ?_ | refine blk_alloc ?_ _)); exact BK223.out) hb); have n1_ := Aside0.mk (below_step (by repeat (first | (with_reducible first | exact HB.out | apply below_alloc | apply pw_below_drewN | apply below_drew1 | refine below_set ?_ GE223.out) | exact HB.out)) hb); have n2_ := Aside0.mk (hbox); have n3_ := Aside0.mk ((by rw [hg]; exact (below_size (by repeat (first | (with_reducible first | exact HB.out | apply below_alloc | apply pw_below_drewN | apply below_drew1 | refine below_set ?_ GE223.out) | exact HB.out))) : w.heap.size ≤ gb224)); have n4_ := Aside0.mk ((by rw [hg]; exact (below_size (by repeat (first | (with_reducible first | exact HB.out | apply below_alloc | apply pw_below_drewN | apply below_drew1 | refine below_set ?_ GE223.out) | exact HB.out))) : w.heap.size ≤ gb224)); have n5_ := Aside0.mk ((by rw [hg]; exact Nat.ne_of_lt (blk_lt (g := gb223) (o := .cells #[.slice A0_0 l0_0.length c0_0, .int .u64 a0_1, .int .u64 a0_2, .int .i64 a0_3, .int .i64 a0_4] 38 (0, 0)) (by (with_reducible repeat (first | refine blk_drewN ?_ _ | refine blk_drew ?_ | refine blk_alloc ?_ _)); exact BK223.out)) : gb223 ≠ gb224)); have n6_ := Aside0.mk ((by rw [hg]; exact Nat.ne_of_gt (blk_lt (g := gb223) (o := .cells #[.slice A0_0 l0_0.length c0_0, .int .u64 a0_1, .int .u64 a0_2, .int .i64 a0_3, .int .i64 a0_4] 38 (0, 0)) (by (with_reducible repeat (first | refine blk_drewN ?_ _ | refine blk_drew ?_ | refine blk_alloc ?_ _)); exact BK223.out)) : gb224 ≠ gb223)); clear BK223; clear HB; have BK223 := n0_; have HB := n1_; have BK224 := n2_; have GW224 := n3_; have GE224 := n4_; have NB223_224 := n5_; have NB224_223 := n6_; clear n0_ n1_ n2_ n3_ n4_ n5_ n6_; clear hb hbox hg; have hnb9 := NB223_224.out; have hnc9 := NB224_223.out; have hcz10_0 : w8.cell? ⟨gb223, 0, none⟩ = some (.slice A0_0 l0_0.length c0_0) := (blk_cell BK223.out 0).trans rfl; have hcz10_1 : w8.cell? ⟨gb223, 1, none⟩ = some (.int .u64 a0_1) := (blk_cell BK223.out 1).trans rfl; have hcz10_2 : w8.cell? ⟨gb223, 2, none⟩ = some (.int .u64 a0_2) := (blk_cell BK223.out 2).trans rfl; have hcz10_3 : w8.cell? ⟨gb223, 3, none⟩ = some (.int .i64 a0_3) := (blk_cell BK223.out 3).trans rfl; have hcz10_4 : w8.cell? ⟨gb223, 4, none⟩ = some (.int .i64 a0_4) := (blk_cell BK223.out 4).trans rfl; have hfz10_0 := blk_frozen BK223.out 0; have hfz10_1 := blk_frozen BK223.out 1; have hfz10_2 := blk_frozen BK223.out 2; have hfz10_3 := blk_frozen BK223.out 3; have hfz10_4 := blk_frozen BK223.out 4; have hcz11_0 : w8.cell? ⟨gb224, 0, none⟩ = some (.slice A1_0 l1_0.length c1_0) := (blk_cell BK224.out 0).trans rfl; have hcz11_1 : w8.cell? ⟨gb224, 1, none⟩ = some (.int .u64 a1_1) := (blk_cell BK224.out 1).trans rfl; have hcz11_2 : w8.cell? ⟨gb224, 2, none⟩ = some (.int .u64 a1_2) := (blk_cell BK224.out 2).trans rfl; have hcz11_3 : w8.cell? ⟨gb224, 3, none⟩ = some (.int .i64 a1_3) := (blk_cell BK224.out 3).trans rfl; have hcz11_4 : w8.cell? ⟨gb224, 4, none⟩ = some (.int .i64 a1_4) := (blk_cell BK224.out 4).trans rfl; have hfz11_0 := blk_frozen BK224.out 0; have hfz11_1 := blk_frozen BK224.out 1; have hfz11_2 := blk_frozen BK224.out 2; have hfz11_3 := blk_frozen BK224.out 3; have hfz11_4 := blk_frozen BK224.out 4) | ((with_reducible refine gate_callee (f := 9) rfl ?_); refine goesL_ (some 9) rfl rfl Tryd.func9 (by kernel_rfl) rfl #[.slice A0_0 l0_0.length c0_0, .slice A1_0 l1_0.length c1_0] rfl (by (try simp only [List.map_toArray, List.map_cons, List.map_nil]); first | done | rfl | (simp only [List.length_drop, List.length_take]; rfl)) ?_; (with_reducible refine (spec_SameNodes.calls k _ _ l0_0 _ _ l1_0 true _ ?side1 ?side2 ?side3 ?side4 A3.out).mono ?_); (case side1 => repeat (first | exact (Kd.C_below HR0_0.out HB.out) | (with_reducible refine Kd.C_alloc ?_ _) | (with_reducible refine Kd.C_drewN ?_ _) | (with_reducible refine Kd.C_drew ?_))); (case side2 => exact HC0_0.out); (case side3 => repeat (first | exact (Kd.C_below HR1_0.out HB.out) | (with_reducible refine Kd.C_alloc ?_ _) | (with_reducible refine Kd.C_drewN ?_ _) | (with_reducible refine Kd.C_drew ?_))); (case side4 => exact HC1_0.out); rintro e w' ⟨rfl, ⟨nd, rfl⟩⟩; refine ⟨_, rfl, ?_⟩))
        go_ret
        exact ⟨by first | rfl | (simp [errW_none, errW_some] <;> rfl) | (simp [*, errW_none, errW_some] <;> rfl), by repeat (first | (with_reducible first | exact HB.out | apply below_alloc | apply pw_below_drewN | apply below_drew1 | refine below_set ?_ GE223.out | refine below_set ?_ GE224.out) | exact HB.out)⟩
      · rw [if_neg c6] at H
        have c6b0 : (a0_3 == a1_3) = false := beq_eq_false_iff_ne.mpr c6
        have c6b1 : (a0_3 != a1_3) = true := bne_iff_ne.mpr c6
        obtain rfl := Option.some.inj H
        go_enter Tryd.func14, Tryd.ntmps14
        go_wp2_with (first | ((with_reducible refine gate_dst (N := 2) rfl ?_); refine box_event ?hg (N := 2) ?hd (cs := #[.slice A0_0 l0_0.length c0_0, .int .u64 a0_1, .int .u64 a0_2, .int .i64 a0_3, .int .i64 a0_4]) (t := 38) ?hr ?_; (case hd => rfl); (case hg => rfl); (case hr => first | (go_simp; done) | (go_simp; rfl)); intro gb223 hg w12 hbox hb; have n0_ := Aside0.mk (below_step (by repeat (first | (with_reducible first | exact HB.out | apply below_alloc | apply pw_below_drewN | apply below_drew1) | exact HB.out)) hb); have n1_ := Aside0.mk (hbox); have n2_ := Aside0.mk ((by rw [hg]; exact (below_size (by repeat (first | (with_reducible first | exact HB.out | apply below_alloc | apply pw_below_drewN | apply below_drew1) | exact HB.out))) : w.heap.size ≤ gb223)); have n3_ := Aside0.mk ((by rw [hg]; exact (below_size (by repeat (first | (with_reducible first | exact HB.out | apply below_alloc | apply pw_below_drewN | apply below_drew1) | exact HB.out))) : w.heap.size ≤ gb223)); clear HB; have HB := n0_; have BK223 := n1_; have GW223 := n2_; have GE223 := n3_; clear n0_ n1_ n2_ n3_; clear hb hbox hg) | ((with_reducible refine gate_dst (N := 3) rfl ?_); refine box_event ?hg (N := 3) ?hd (cs := #[.slice A1_0 l1_0.length c1_0, .int .u64 a1_1, .int .u64 a1_2, .int .i64 a1_3, .int .i64 a1_4]) (t := 38) ?hr ?_; (case hd => rfl); (case hg => rfl); (case hr => first | (go_simp; done) | (go_simp; rfl)); intro gb224 hg w13 hbox hb; have n0_ := Aside0.mk (blk_below (g := gb223) (o := .cells #[.slice A0_0 l0_0.length c0_0, .int .u64 a0_1, .int .u64 a0_2, .int .i64 a0_3, .int .i64 a0_4] 38 (0, 0)) (by (with_reducible repeat (first | refine blk_drewN ?_ _ | refine blk_drew ?_ | refine blk_alloc ?_ _)); exact BK223.out) hb); have n1_ := Aside0.mk (below_step (by repeat (first | (with_reducible first | exact HB.out | apply below_alloc | apply pw_below_drewN | apply below_drew1 | refine below_set ?_ GE223.out) | exact HB.out)) hb); have n2_ := Aside0.mk (hbox); have n3_ := Aside0.mk ((by rw [hg]; exact (below_size (by repeat (first | (with_reducible first | exact HB.out | apply below_alloc | apply pw_below_drewN | apply below_drew1 | refine below_set ?_ GE223.out) | exact HB.out))) : w.heap.size ≤ gb224)); have n4_ := Aside0.mk ((by rw [hg]; exact (below_size (by repeat (first | (with_reducible first | exact HB.out | apply below_alloc | apply pw_below_drewN | apply below_drew1 | refine below_set ?_ GE223.out) | exact HB.out))) : w.heap.size ≤ gb224)); have n5_ := Aside0.mk ((by rw [hg]; exact Nat.ne_of_lt (blk_lt (g := gb223) (o := .cells #[.slice A0_0 l0_0.length c0_0, .int .u64 a0_1, .int .u64 a0_2, .int .i64 a0_3, .int .i64 a0_4] 38 (0, 0)) (by (with_reducible repeat (first | refine blk_drewN ?_ _ | refine blk_drew ?_ | refine blk_alloc ?_ _)); exact BK223.out)) : gb223 ≠ gb224)); have n6_ := Aside0.mk ((by rw [hg]; exact Nat.ne_of_gt (blk_lt (g := gb223) (o := .cells #[.slice A0_0 l0_0.length c0_0, .int .u64 a0_1, .int .u64 a0_2, .int .i64 a0_3, .int .i64 a0_4] 38 (0, 0)) (by (with_reducible repeat (first | refine blk_drewN ?_ _ | refine blk_drew ?_ | refine blk_alloc ?_ _)); exact BK223.out)) : gb224 ≠ gb223)); clear BK223; clear HB; have BK223 := n0_; have HB := n1_; have BK224 := n2_; have GW224 := n3_; have GE224 := n4_; have NB223_224 := n5_; have NB224_223 := n6_; clear n0_ n1_ n2_ n3_ n4_ n5_ n6_; clear hb hbox hg; have hnb14 := NB223_224.out; have hnc14 := NB224_223.out; have hcz15_0 : w13.cell? ⟨gb223, 0, none⟩ = some (.slice A0_0 l0_0.length c0_0) := (blk_cell BK223.out 0).trans rfl; have hcz15_1 : w13.cell? ⟨gb223, 1, none⟩ = some (.int .u64 a0_1) := (blk_cell BK223.out 1).trans rfl; have hcz15_2 : w13.cell? ⟨gb223, 2, none⟩ = some (.int .u64 a0_2) := (blk_cell BK223.out 2).trans rfl; have hcz15_3 : w13.cell? ⟨gb223, 3, none⟩ = some (.int .i64 a0_3) := (blk_cell BK223.out 3).trans rfl; have hcz15_4 : w13.cell? ⟨gb223, 4, none⟩ = some (.int .i64 a0_4) := (blk_cell BK223.out 4).trans rfl; have hfz15_0 := blk_frozen BK223.out 0; have hfz15_1 := blk_frozen BK223.out 1; have hfz15_2 := blk_frozen BK223.out 2; have hfz15_3 := blk_frozen BK223.out 3; have hfz15_4 := blk_frozen BK223.out 4; have hcz16_0 : w13.cell? ⟨gb224, 0, none⟩ = some (.slice A1_0 l1_0.length c1_0) := (blk_cell BK224.out 0).trans rfl; have hcz16_1 : w13.cell? ⟨gb224, 1, none⟩ = some (.int .u64 a1_1) := (blk_cell BK224.out 1).trans rfl; have hcz16_2 : w13.cell? ⟨gb224, 2, none⟩ = some (.int .u64 a1_2) := (blk_cell BK224.out 2).trans rfl; have hcz16_3 : w13.cell? ⟨gb224, 3, none⟩ = some (.int .i64 a1_3) := (blk_cell BK224.out 3).trans rfl; have hcz16_4 : w13.cell? ⟨gb224, 4, none⟩ = some (.int .i64 a1_4) := (blk_cell BK224.out 4).trans rfl; have hfz16_0 := blk_frozen BK224.out 0; have hfz16_1 := blk_frozen BK224.out 1; have hfz16_2 := blk_frozen BK224.out 2; have hfz16_3 := blk_frozen BK224.out 3; have hfz16_4 := blk_frozen BK224.out 4) | ((with_reducible refine gate_callee (f := 9) rfl ?_); refine goesL_ (some 9) rfl rfl Tryd.func9 (by kernel_rfl) rfl #[.slice A0_0 l0_0.length c0_0, .slice A1_0 l1_0.length c1_0] rfl (by (try simp only [List.map_toArray, List.map_cons, List.map_nil]); first | done | rfl | (simp only [List.length_drop, List.length_take]; rfl)) ?_; (with_reducible refine (spec_SameNodes.calls k _ _ l0_0 _ _ l1_0 true _ ?side1 ?side2 ?side3 ?side4 A3.out).mono ?_); (case side1 => repeat (first | exact (Kd.C_below HR0_0.out HB.out) | (with_reducible refine Kd.C_alloc ?_ _) | (with_reducible refine Kd.C_drewN ?_ _) | (with_reducible refine Kd.C_drew ?_))); (case side2 => exact HC0_0.out); (case side3 => repeat (first | exact (Kd.C_below HR1_0.out HB.out) | (with_reducible refine Kd.C_alloc ?_ _) | (with_reducible refine Kd.C_drewN ?_ _) | (with_reducible refine Kd.C_drew ?_))); (case side4 => exact HC1_0.out); rintro e w' ⟨rfl, ⟨nd, rfl⟩⟩; refine ⟨_, rfl, ?_⟩))
        go_ret
        exact ⟨by first | rfl | (simp [errW_none, errW_some] <;> rfl) | (simp [*, errW_none, errW_some] <;> rfl), by repeat (first | (with_reducible first | exact HB.out | apply below_alloc | apply pw_below_drewN | apply below_drew1 | refine below_set ?_ GE223.out | refine below_set ?_ GE224.out) | exact HB.out)⟩
    · rw [if_neg c5] at H
      have c5b0 : (a0_1 == a1_1 && (a0_2 == a1_2)) = false := by simpa using c5
      (try (have c5b1 : decide (a0_1 = a1_1 && (a0_2 == a1_2)) = false := by simpa using c5))
      (try (have c5b2 : (a0_1 == a1_1 && (a0_2 == a1_2)) = false := by simpa using c5))
      (try (have c5b3 : ¬ (a0_1 = a1_1 && (a0_2 == a1_2)) := by simpa using c5))
      clear c5
      obtain rfl := Option.some.inj H
      go_enter Tryd.func14, Tryd.ntmps14
      go_wp2_with (first | ((with_reducible refine gate_dst (N := 2) rfl ?_); refine box_event ?hg (N := 2) ?hd (cs := #[.slice A0_0 l0_0.length c0_0, .int .u64 a0_1, .int .u64 a0_2, .int .i64 a0_3, .int .i64 a0_4]) (t := 38) ?hr ?_; (case hd => rfl); (case hg => rfl); (case hr => first | (go_simp; done) | (go_simp; rfl)); intro gb223 hg w17 hbox hb; have n0_ := Aside0.mk (below_step (by repeat (first | (with_reducible first | exact HB.out | apply below_alloc | apply pw_below_drewN | apply below_drew1) | exact HB.out)) hb); have n1_ := Aside0.mk (hbox); have n2_ := Aside0.mk ((by rw [hg]; exact (below_size (by repeat (first | (with_reducible first | exact HB.out | apply below_alloc | apply pw_below_drewN | apply below_drew1) | exact HB.out))) : w.heap.size ≤ gb223)); have n3_ := Aside0.mk ((by rw [hg]; exact (below_size (by repeat (first | (with_reducible first | exact HB.out | apply below_alloc | apply pw_below_drewN | apply below_drew1) | exact HB.out))) : w.heap.size ≤ gb223)); clear HB; have HB := n0_; have BK223 := n1_; have GW223 := n2_; have GE223 := n3_; clear n0_ n1_ n2_ n3_; clear hb hbox hg) | ((with_reducible refine gate_dst (N := 3) rfl ?_); refine box_event ?hg (N := 3) ?hd (cs := #[.slice A1_0 l1_0.length c1_0, .int .u64 a1_1, .int .u64 a1_2, .int .i64 a1_3, .int .i64 a1_4]) (t := 38) ?hr ?_; (case hd => rfl); (case hg => rfl); (case hr => first | (go_simp; done) | (go_simp; rfl)); intro gb224 hg w18 hbox hb; have n0_ := Aside0.mk (blk_below (g := gb223) (o := .cells #[.slice A0_0 l0_0.length c0_0, .int .u64 a0_1, .int .u64 a0_2, .int .i64 a0_3, .int .i64 a0_4] 38 (0, 0)) (by (with_reducible repeat (first | refine blk_drewN ?_ _ | refine blk_drew ?_ | refine blk_alloc ?_ _)); exact BK223.out) hb); have n1_ := Aside0.mk (below_step (by repeat (first | (with_reducible first | exact HB.out | apply below_alloc | apply pw_below_drewN | apply below_drew1 | refine below_set ?_ GE223.out) | exact HB.out)) hb); have n2_ := Aside0.mk (hbox); have n3_ := Aside0.mk ((by rw [hg]; exact (below_size (by repeat (first | (with_reducible first | exact HB.out | apply below_alloc | apply pw_below_drewN | apply below_drew1 | refine below_set ?_ GE223.out) | exact HB.out))) : w.heap.size ≤ gb224)); have n4_ := Aside0.mk ((by rw [hg]; exact (below_size (by repeat (first | (with_reducible first | exact HB.out | apply below_alloc | apply pw_below_drewN | apply below_drew1 | refine below_set ?_ GE223.out) | exact HB.out))) : w.heap.size ≤ gb224)); have n5_ := Aside0.mk ((by rw [hg]; exact Nat.ne_of_lt (blk_lt (g := gb223) (o := .cells #[.slice A0_0 l0_0.length c0_0, .int .u64 a0_1, .int .u64 a0_2, .int .i64 a0_3, .int .i64 a0_4] 38 (0, 0)) (by (with_reducible repeat (first | refine blk_drewN ?_ _ | refine blk_drew ?_ | refine blk_alloc ?_ _)); exact BK223.out)) : gb223 ≠ gb224)); have n6_ := Aside0.mk ((by rw [hg]; exact Nat.ne_of_gt (blk_lt (g := gb223) (o := .cells #[.slice A0_0 l0_0.length c0_0, .int .u64 a0_1, .int .u64 a0_2, .int .i64 a0_3, .int .i64 a0_4] 38 (0, 0)) (by (with_reducible repeat (first | refine blk_drewN ?_ _ | refine blk_drew ?_ | refine blk_alloc ?_ _)); exact BK223.out)) : gb224 ≠ gb223)); clear BK223; clear HB; have BK223 := n0_; have HB := n1_; have BK224 := n2_; have GW224 := n3_; have GE224 := n4_; have NB223_224 := n5_; have NB224_223 := n6_; clear n0_ n1_ n2_ n3_ n4_ n5_ n6_; clear hb hbox hg; have hnb19 := NB223_224.out; have hnc19 := NB224_223.out; have hcz20_0 : w18.cell? ⟨gb223, 0, none⟩ = some (.slice A0_0 l0_0.length c0_0) := (blk_cell BK223.out 0).trans rfl; have hcz20_1 : w18.cell? ⟨gb223, 1, none⟩ = some (.int .u64 a0_1) := (blk_cell BK223.out 1).trans rfl; have hcz20_2 : w18.cell? ⟨gb223, 2, none⟩ = some (.int .u64 a0_2) := (blk_cell BK223.out 2).trans rfl; have hcz20_3 : w18.cell? ⟨gb223, 3, none⟩ = some (.int .i64 a0_3) := (blk_cell BK223.out 3).trans rfl; have hcz20_4 : w18.cell? ⟨gb223, 4, none⟩ = some (.int .i64 a0_4) := (blk_cell BK223.out 4).trans rfl; have hfz20_0 := blk_frozen BK223.out 0; have hfz20_1 := blk_frozen BK223.out 1; have hfz20_2 := blk_frozen BK223.out 2; have hfz20_3 := blk_frozen BK223.out 3; have hfz20_4 := blk_frozen BK223.out 4; have hcz21_0 : w18.cell? ⟨gb224, 0, none⟩ = some (.slice A1_0 l1_0.length c1_0) := (blk_cell BK224.out 0).trans rfl; have hcz21_1 : w18.cell? ⟨gb224, 1, none⟩ = some (.int .u64 a1_1) := (blk_cell BK224.out 1).trans rfl; have hcz21_2 : w18.cell? ⟨gb224, 2, none⟩ = some (.int .u64 a1_2) := (blk_cell BK224.out 2).trans rfl; have hcz21_3 : w18.cell? ⟨gb224, 3, none⟩ = some (.int .i64 a1_3) := (blk_cell BK224.out 3).trans rfl; have hcz21_4 : w18.cell? ⟨gb224, 4, none⟩ = some (.int .i64 a1_4) := (blk_cell BK224.out 4).trans rfl; have hfz21_0 := blk_frozen BK224.out 0; have hfz21_1 := blk_frozen BK224.out 1; have hfz21_2 := blk_frozen BK224.out 2; have hfz21_3 := blk_frozen BK224.out 3; have hfz21_4 := blk_frozen BK224.out 4) | ((with_reducible refine gate_callee (f := 9) rfl ?_); refine goesL_ (some 9) rfl rfl Tryd.func9 (by kernel_rfl) rfl #[.slice A0_0 l0_0.length c0_0, .slice A1_0 l1_0.length c1_0] rfl (by (try simp only [List.map_toArray, List.map_cons, List.map_nil]); first | done | rfl | (simp only [List.length_drop, List.length_take]; rfl)) ?_; (with_reducible refine (spec_SameNodes.calls k _ _ l0_0 _ _ l1_0 true _ ?side1 ?side2 ?side3 ?side4 A3.out).mono ?_); (case side1 => repeat (first | exact (Kd.C_below HR0_0.out HB.out) | (with_reducible refine Kd.C_alloc ?_ _) | (with_reducible refine Kd.C_drewN ?_ _) | (with_reducible refine Kd.C_drew ?_))); (case side2 => exact HC0_0.out); (case side3 => repeat (first | exact (Kd.C_below HR1_0.out HB.out) | (with_reducible refine Kd.C_alloc ?_ _) | (with_reducible refine Kd.C_drewN ?_ _) | (with_reducible refine Kd.C_drew ?_))); (case side4 => exact HC1_0.out); rintro e w' ⟨rfl, ⟨nd, rfl⟩⟩; refine ⟨_, rfl, ?_⟩))
      go_ret
      exact ⟨by first | rfl | (simp [errW_none, errW_some] <;> rfl) | (simp [*, errW_none, errW_some] <;> rfl), by repeat (first | (with_reducible first | exact HB.out | apply below_alloc | apply pw_below_drewN | apply below_drew1 | refine below_set ?_ GE223.out | refine below_set ?_ GE224.out) | exact HB.out)⟩
  · replace c4 := Bool.eq_false_iff.mpr c4
    subst c4
    have H1 : (some false) = some r := by rw [if_neg (show ¬ (false = true) by decide)] at H; exact H
    clear H
    have H := H1
    clear H1
    obtain rfl := Option.some.inj H
    go_enter Tryd.func14, Tryd.ntmps14
    go_wp2_with (first | ((with_reducible refine gate_dst (N := 2) rfl ?_); refine box_event ?hg (N := 2) ?hd (cs := #[.slice A0_0 l0_0.length c0_0, .int .u64 a0_1, .int .u64 a0_2, .int .i64 a0_3, .int .i64 a0_4]) (t := 38) ?hr ?_; (case hd => rfl); (case hg => rfl); (case hr => first | (go_simp; done) | (go_simp; rfl)); intro gb223 hg w22 hbox hb; have n0_ := Aside0.mk (below_step (by repeat (first | (with_reducible first | exact HB.out | apply below_alloc | apply pw_below_drewN | apply below_drew1) | exact HB.out)) hb); have n1_ := Aside0.mk (hbox); have n2_ := Aside0.mk ((by rw [hg]; exact (below_size (by repeat (first | (with_reducible first | exact HB.out | apply below_alloc | apply pw_below_drewN | apply below_drew1) | exact HB.out))) : w.heap.size ≤ gb223)); have n3_ := Aside0.mk ((by rw [hg]; exact (below_size (by repeat (first | (with_reducible first | exact HB.out | apply below_alloc | apply pw_below_drewN | apply below_drew1) | exact HB.out))) : w.heap.size ≤ gb223)); clear HB; have HB := n0_; have BK223 := n1_; have GW223 := n2_; have GE223 := n3_; clear n0_ n1_ n2_ n3_; clear hb hbox hg) | ((with_reducible refine gate_dst (N := 3) rfl ?_); refine box_event ?hg (N := 3) ?hd (cs := #[.slice A1_0 l1_0.length c1_0, .int .u64 a1_1, .int .u64 a1_2, .int .i64 a1_3, .int .i64 a1_4]) (t := 38) ?hr ?_; (case hd => rfl); (case hg => rfl); (case hr => first | (go_simp; done) | (go_simp; rfl)); intro gb224 hg w23 hbox hb; have n0_ := Aside0.mk (blk_below (g := gb223) (o := .cells #[.slice A0_0 l0_0.length c0_0, .int .u64 a0_1, .int .u64 a0_2, .int .i64 a0_3, .int .i64 a0_4] 38 (0, 0)) (by (with_reducible repeat (first | refine blk_drewN ?_ _ | refine blk_drew ?_ | refine blk_alloc ?_ _)); exact BK223.out) hb); have n1_ := Aside0.mk (below_step (by repeat (first | (with_reducible first | exact HB.out | apply below_alloc | apply pw_below_drewN | apply below_drew1 | refine below_set ?_ GE223.out) | exact HB.out)) hb); have n2_ := Aside0.mk (hbox); have n3_ := Aside0.mk ((by rw [hg]; exact (below_size (by repeat (first | (with_reducible first | exact HB.out | apply below_alloc | apply pw_below_drewN | apply below_drew1 | refine below_set ?_ GE223.out) | exact HB.out))) : w.heap.size ≤ gb224)); have n4_ := Aside0.mk ((by rw [hg]; exact (below_size (by repeat (first | (with_reducible first | exact HB.out | apply below_alloc | apply pw_below_drewN | apply below_drew1 | refine below_set ?_ GE223.out) | exact HB.out))) : w.heap.size ≤ gb224)); have n5_ := Aside0.mk ((by rw [hg]; exact Nat.ne_of_lt (blk_lt (g := gb223) (o := .cells #[.slice A0_0 l0_0.length c0_0, .int .u64 a0_1, .int .u64 a0_2, .int .i64 a0_3, .int .i64 a0_4] 38 (0, 0)) (by (with_reducible repeat (first | refine blk_drewN ?_ _ | refine blk_drew ?_ | refine blk_alloc ?_ _)); exact BK223.out)) : gb223 ≠ gb224)); have n6_ := Aside0.mk ((by rw [hg]; exact Nat.ne_of_gt (blk_lt (g := gb223) (o := .cells #[.slice A0_0 l0_0.length c0_0, .int .u64 a0_1, .int .u64 a0_2, .int .i64 a0_3, .int .i64 a0_4] 38 (0, 0)) (by (with_reducible repeat (first | refine blk_drewN ?_ _ | refine blk_drew ?_ | refine blk_alloc ?_ _)); exact BK223.out)) : gb224 ≠ gb223)); clear BK223; clear HB; have BK223 := n0_; have HB := n1_; have BK224 := n2_; have GW224 := n3_; have GE224 := n4_; have NB223_224 := n5_; have NB224_223 := n6_; clear n0_ n1_ n2_ n3_ n4_ n5_ n6_; clear hb hbox hg; have hnb24 := NB223_224.out; have hnc24 := NB224_223.out; have hcz25_0 : w23.cell? ⟨gb223, 0, none⟩ = some (.slice A0_0 l0_0.length c0_0) := (blk_cell BK223.out 0).trans rfl; have hcz25_1 : w23.cell? ⟨gb223, 1, none⟩ = some (.int .u64 a0_1) := (blk_cell BK223.out 1).trans rfl; have hcz25_2 : w23.cell? ⟨gb223, 2, none⟩ = some (.int .u64 a0_2) := (blk_cell BK223.out 2).trans rfl; have hcz25_3 : w23.cell? ⟨gb223, 3, none⟩ = some (.int .i64 a0_3) := (blk_cell BK223.out 3).trans rfl; have hcz25_4 : w23.cell? ⟨gb223, 4, none⟩ = some (.int .i64 a0_4) := (blk_cell BK223.out 4).trans rfl; have hfz25_0 := blk_frozen BK223.out 0; have hfz25_1 := blk_frozen BK223.out 1; have hfz25_2 := blk_frozen BK223.out 2; have hfz25_3 := blk_frozen BK223.out 3; have hfz25_4 := blk_frozen BK223.out 4; have hcz26_0 : w23.cell? ⟨gb224, 0, none⟩ = some (.slice A1_0 l1_0.length c1_0) := (blk_cell BK224.out 0).trans rfl; have hcz26_1 : w23.cell? ⟨gb224, 1, none⟩ = some (.int .u64 a1_1) := (blk_cell BK224.out 1).trans rfl; have hcz26_2 : w23.cell? ⟨gb224, 2, none⟩ = some (.int .u64 a1_2) := (blk_cell BK224.out 2).trans rfl; have hcz26_3 : w23.cell? ⟨gb224, 3, none⟩ = some (.int .i64 a1_3) := (blk_cell BK224.out 3).trans rfl; have hcz26_4 : w23.cell? ⟨gb224, 4, none⟩ = some (.int .i64 a1_4) := (blk_cell BK224.out 4).trans rfl; have hfz26_0 := blk_frozen BK224.out 0; have hfz26_1 := blk_frozen BK224.out 1; have hfz26_2 := blk_frozen BK224.out 2; have hfz26_3 := blk_frozen BK224.out 3; have hfz26_4 := blk_frozen BK224.out 4) | ((with_reducible refine gate_callee (f := 9) rfl ?_); refine goesL_ (some 9) rfl rfl Tryd.func9 (by kernel_rfl) rfl #[.slice A0_0 l0_0.length c0_0, .slice A1_0 l1_0.length c1_0] rfl (by (try simp only [List.map_toArray, List.map_cons, List.map_nil]); first | done | rfl | (simp only [List.length_drop, List.length_take]; rfl)) ?_; (with_reducible refine (spec_SameNodes.calls k _ _ l0_0 _ _ l1_0 false _ ?side1 ?side2 ?side3 ?side4 A3.out).mono ?_); (case side1 => repeat (first | exact (Kd.C_below HR0_0.out HB.out) | (with_reducible refine Kd.C_alloc ?_ _) | (with_reducible refine Kd.C_drewN ?_ _) | (with_reducible refine Kd.C_drew ?_))); (case side2 => exact HC0_0.out); (case side3 => repeat (first | exact (Kd.C_below HR1_0.out HB.out) | (with_reducible refine Kd.C_alloc ?_ _) | (with_reducible refine Kd.C_drewN ?_ _) | (with_reducible refine Kd.C_drew ?_))); (case side4 => exact HC1_0.out); rintro e w' ⟨rfl, ⟨nd, rfl⟩⟩; refine ⟨_, rfl, ?_⟩))
    go_ret
    exact ⟨by first | rfl | (simp [errW_none, errW_some] <;> rfl) | (simp [*, errW_none, errW_some] <;> rfl), by repeat (first | (with_reducible first | exact HB.out | apply below_alloc | apply pw_below_drewN | apply below_drew1 | refine below_set ?_ GE223.out | refine below_set ?_ GE224.out) | exact HB.out)⟩

/-! ### spec_NodeOf: function 36 -/
def spec_NodeOf.l0 : Nat → Int → Int → Int → Int → Option (Int × Int)
  | 0, _, _, _, _ => none
  | k + 1, x227000, x227001, x229000, x229001 => if 0 ≤ x229000 then (if (shr .u64 (IntKind.u64.wrap (x227001 - x227000)) x229000) > 1 then (spec_NodeOf.l0 k x227000 x227001 (IntKind.u64.wrap (x229000 + 1)) x229001) else (some (x229000, shr .u64 x227000 x229000))) else (none)
def spec_NodeOf.f (k : Nat) (a0_0 : Int) (a0_1 : Int) : Option (Int × Int) := spec_NodeOf.l0 k a0_0 a0_1 0 0
theorem spec_NodeOf.mono_l : ∀ k, (∀ y0 y1 y2 y3, LeO (spec_NodeOf.l0 k y0 y1 y2 y3) (spec_NodeOf.l0 (k + 1) y0 y1 y2 y3))
  | 0 => fun _ _ _ _ r h => by simp [spec_NodeOf.l0] at h
  | k + 1 => by
    have ih0 := spec_NodeOf.mono_l k
    · intro y0 y1 y2 y3
      unfold spec_NodeOf.l0
      repeat' first
      | (with_reducible exact ih0 _ _ _ _)
      | (with_reducible exact LeO.refl _)
      | (with_reducible exact LeO.none _)
      | (with_reducible refine LeO.ite ?_ ?_)
      | (with_reducible refine LeO.bind ?_ (fun _ => ?_))
      | exact ih0 _ _ _ _
      | exact LeO.none _
      | refine LeO.ite ?_ ?_
      | refine LeO.bind ?_ (fun _ => ?_)
theorem spec_NodeOf.mono : ∀ a0 a1 k, LeO (spec_NodeOf.f k a0 a1) (spec_NodeOf.f (k + 1) a0 a1) := by
  intro a0 a1 k
  have ih0 := spec_NodeOf.mono_l k
  unfold spec_NodeOf.f
  repeat' first
      | (with_reducible exact ih0 _ _ _ _)
      | (with_reducible exact LeO.refl _)
      | (with_reducible exact LeO.none _)
      | (with_reducible refine LeO.ite ?_ ?_)
      | (with_reducible refine LeO.bind ?_ (fun _ => ?_))
      | exact ih0 _ _ _ _
      | exact LeO.none _
      | refine LeO.ite ?_ ?_
      | refine LeO.bind ?_ (fun _ => ?_)
set_option maxHeartbeats 8000000 in
set_option maxRecDepth 100000 in
theorem spec_NodeOf.calls (k : Nat) (a0_0 : Int) (a0_1 : Int) (r1 : Int) (r2 : Int) (w : World) (h : spec_NodeOf.f k a0_0 a0_1 = some (r1, r2)) :
    Calls Tryd.prog 36 #[.agg #[.int .u64 a0_0, .int .u64 a0_1]] w fun e w' => e = .returned (.agg #[.int .u64 r1, .int .u64 r2]) ∧ Below w.heap.size w w' := by
  have hu26 := Tryd.underlying26
  have hu36 := Tryd.underlying36
  have HB := Aside0.mk (Below.refl w.heap.size w)
  have H : (spec_NodeOf.l0 k a0_0 a0_1 0 0) = some (r1, r2) := h
  clear h
  have H' := Aside0.mk H
  clear H
  go_enter Tryd.func36, Tryd.ntmps36
  go_wp2_with (first | ((with_reducible refine gate_dst (N := 1) rfl ?_); refine box_event ?hg (N := 1) ?hd (cs := #[.int .u64 a0_0, .int .u64 a0_1]) (t := 26) ?hr ?_; (case hd => rfl); (case hg => rfl); (case hr => first | (go_simp; done) | (go_simp; rfl)); intro gb226 hg w2 hbox hb; have n0_ := Aside0.mk (below_step (by repeat (first | (with_reducible first | exact HB.out | apply below_alloc | apply pw_below_drewN | apply below_drew1) | exact HB.out)) hb); have n1_ := Aside0.mk (hbox); have n2_ := Aside0.mk ((by rw [hg]; exact (below_size (by repeat (first | (with_reducible first | exact HB.out | apply below_alloc | apply pw_below_drewN | apply below_drew1) | exact HB.out))) : w.heap.size ≤ gb226)); have n3_ := Aside0.mk ((by rw [hg]; exact (below_size (by repeat (first | (with_reducible first | exact HB.out | apply below_alloc | apply pw_below_drewN | apply below_drew1) | exact HB.out))) : w.heap.size ≤ gb226)); clear HB; have HB := n0_; have BK226 := n1_; have GW226 := n2_; have GE226 := n3_; clear n0_ n1_ n2_ n3_; clear hb hbox hg) | ((with_reducible refine gate_dst (N := 2) rfl ?_); refine box_event ?hg (N := 2) ?hd (cs := #[.int .u64 0, .int .u64 0]) (t := 36) ?hr ?_; (case hd => rfl); (case hg => rfl); (case hr => first | (go_simp; done) | (go_simp; rfl)); intro gb227 hg w3 hbox hb; have n0_ := Aside0.mk (blk_below (g := gb226) (o := .cells #[.int .u64 a0_0, .int .u64 a0_1] 26 (0, 0)) (by (with_reducible repeat (first | refine blk_drewN ?_ _ | refine blk_drew ?_ | refine blk_alloc ?_ _)); exact BK226.out) hb); have n1_ := Aside0.mk (below_step (by repeat (first | (with_reducible first | exact HB.out | apply below_alloc | apply pw_below_drewN | apply below_drew1 | refine below_set ?_ GE226.out) | exact HB.out)) hb); have n2_ := Aside0.mk (hbox); have n3_ := Aside0.mk ((by rw [hg]; exact (below_size (by repeat (first | (with_reducible first | exact HB.out | apply below_alloc | apply pw_below_drewN | apply below_drew1 | refine below_set ?_ GE226.out) | exact HB.out))) : w.heap.size ≤ gb227)); have n4_ := Aside0.mk ((by rw [hg]; exact (below_size (by repeat (first | (with_reducible first | exact HB.out | apply below_alloc | apply pw_below_drewN | apply below_drew1 | refine below_set ?_ GE226.out) | exact HB.out))) : w.heap.size ≤ gb227)); have n5_ := Aside0.mk ((by rw [hg]; exact Nat.ne_of_lt (blk_lt (g := gb226) (o := .cells #[.int .u64 a0_0, .int .u64 a0_1] 26 (0, 0)) (by (with_reducible repeat (first | refine blk_drewN ?_ _ | refine blk_drew ?_ | refine blk_alloc ?_ _)); exact BK226.out)) : gb226 ≠ gb227)); have n6_ := Aside0.mk ((by rw [hg]; exact Nat.ne_of_gt (blk_lt (g := gb226) (o := .cells #[.int .u64 a0_0, .int .u64 a0_1] 26 (0, 0)) (by (with_reducible repeat (first | refine blk_drewN ?_ _ | refine blk_drew ?_ | refine blk_alloc ?_ _)); exact BK226.out)) : gb227 ≠ gb226)); clear BK226; clear HB; have BK226 := n0_; have HB := n1_; have BK227 := n2_; have GW227 := n3_; have GE227 := n4_; have NB226_227 := n5_; have NB227_226 := n6_; clear n0_ n1_ n2_ n3_ n4_ n5_ n6_; clear hb hbox hg) | ((with_reducible refine gate_dst (N := 3) rfl ?_); refine box_event ?hg (N := 3) ?hd (cs := #[.int .u64 0, .int .u64 0]) (t := 36) ?hr ?_; (case hd => rfl); (case hg => rfl); (case hr => first | (go_simp; done) | (go_simp; rfl)); intro gb228 hg w4 hbox hb; have n0_ := Aside0.mk (blk_below (g := gb226) (o := .cells #[.int .u64 a0_0, .int .u64 a0_1] 26 (0, 0)) (by (with_reducible repeat (first | refine blk_drewN ?_ _ | refine blk_drew ?_ | refine blk_alloc ?_ _)); exact BK226.out) hb); have n1_ := Aside0.mk (blk_below (g := gb227) (o := .cells #[.int .u64 0, .int .u64 0] 36 (0, 0)) (by (with_reducible repeat (first | refine blk_drewN ?_ _ | refine blk_drew ?_ | refine blk_alloc ?_ _)); exact BK227.out) hb); have n2_ := Aside0.mk (below_step (by repeat (first | (with_reducible first | exact HB.out | apply below_alloc | apply pw_below_drewN | apply below_drew1 | refine below_set ?_ GE226.out | refine below_set ?_ GE227.out) | exact HB.out)) hb); have n3_ := Aside0.mk (hbox); have n4_ := Aside0.mk ((by rw [hg]; exact (below_size (by repeat (first | (with_reducible first | exact HB.out | apply below_alloc | apply pw_below_drewN | apply below_drew1 | refine below_set ?_ GE226.out | refine below_set ?_ GE227.out) | exact HB.out))) : w.heap.size ≤ gb228)); have n5_ := Aside0.mk ((by rw [hg]; exact (below_size (by repeat (first | (with_reducible first | exact HB.out | apply below_alloc | apply pw_below_drewN | apply below_drew1 | refine below_set ?_ GE226.out | refine below_set ?_ GE227.out) | exact HB.out))) : w.heap.size ≤ gb228)); have n6_ := Aside0.mk ((by rw [hg]; exact Nat.ne_of_lt (blk_lt (g := gb226) (o := .cells #[.int .u64 a0_0, .int .u64 a0_1] 26 (0, 0)) (by (with_reducible repeat (first | refine blk_drewN ?_ _ | refine blk_drew ?_ | refine blk_alloc ?_ _)); exact BK226.out)) : gb226 ≠ gb228)); have n7_ := Aside0.mk ((by rw [hg]; exact Nat.ne_of_gt (blk_lt (g := gb226) (o := .cells #[.int .u64 a0_0, .int .u64 a0_1] 26 (0, 0)) (by (with_reducible repeat (first | refine blk_drewN ?_ _ | refine blk_drew ?_ | refine blk_alloc ?_ _)); exact BK226.out)) : gb228 ≠ gb226)); have n8_ := Aside0.mk ((by rw [hg]; exact Nat.ne_of_lt (blk_lt (g := gb227) (o := .cells #[.int .u64 0, .int .u64 0] 36 (0, 0)) (by (with_reducible repeat (first | refine blk_drewN ?_ _ | refine blk_drew ?_ | refine blk_alloc ?_ _)); exact BK227.out)) : gb227 ≠ gb228)); have n9_ := Aside0.mk ((by rw [hg]; exact Nat.ne_of_gt (blk_lt (g := gb227) (o := .cells #[.int .u64 0, .int .u64 0] 36 (0, 0)) (by (with_reducible repeat (first | refine blk_drewN ?_ _ | refine blk_drew ?_ | refine blk_alloc ?_ _)); exact BK227.out)) : gb228 ≠ gb227)); clear BK226; clear BK227; clear HB; have BK226 := n0_; have BK227 := n1_; have HB := n2_; have BK228 := n3_; have GW228 := n4_; have GE228 := n5_; have NB226_228 := n6_; have NB228_226 := n7_; have NB227_228 := n8_; have NB228_227 := n9_; clear n0_ n1_ n2_ n3_ n4_ n5_ n6_ n7_ n8_ n9_; clear hb hbox hg; have hnb5 := NB228_226.out; have hnc5 := NB226_228.out; have hnb6 := NB228_227.out; have hnc6 := NB227_228.out; have hcz7_0 : w4.cell? ⟨gb228, 0, none⟩ = some (.int .u64 0) := (blk_cell BK228.out 0).trans rfl; have hcz7_1 : w4.cell? ⟨gb228, 1, none⟩ = some (.int .u64 0) := (blk_cell BK228.out 1).trans rfl; have hfz7_0 := blk_frozen BK228.out 0; have hfz7_1 := blk_frozen BK228.out 1))
  try simp only [Act.put, List.setIfInBounds_toArray, List.set_cons_zero, List.set_cons_succ]
  go_loopg [] k (fun kq w' => ∃ (x229000_1 : Int), Aside0 (spec_NodeOf.l0 kq a0_0 a0_1 x229000_1 0 = some (r1, r2)) ∧ Aside0 (kq ≤ k) ∧ Aside0 (w'.heap[gb226]? = some (.cells #[.int .u64 a0_0, .int .u64 a0_1] 26 (0, 0))) ∧ Aside0 (w'.heap[gb227]? = some (.cells #[.int .u64 0, .int .u64 0] 36 (0, 0))) ∧ Aside0 (w'.heap[gb228]? = some (.cells #[.int .u64 x229000_1, .int .u64 0] 36 (0, 0))) ∧ Aside0 (Below w.heap.size w w'))
  case atStart => exact ⟨(0), H', ⟨Nat.le_refl _⟩, ⟨by (with_reducible repeat (first | refine blk_drewN ?_ _ | refine blk_drew ?_ | refine blk_alloc ?_ _)); refine blk_far ?_ NB226_228.out _; (with_reducible repeat (first | refine blk_drewN ?_ _ | refine blk_drew ?_ | refine blk_alloc ?_ _)); refine blk_far ?_ NB226_228.out _; (with_reducible repeat (first | refine blk_drewN ?_ _ | refine blk_drew ?_ | refine blk_alloc ?_ _)); exact BK226.out⟩, ⟨by (with_reducible repeat (first | refine blk_drewN ?_ _ | refine blk_drew ?_ | refine blk_alloc ?_ _)); refine blk_far ?_ NB227_228.out _; (with_reducible repeat (first | refine blk_drewN ?_ _ | refine blk_drew ?_ | refine blk_alloc ?_ _)); refine blk_far ?_ NB227_228.out _; (with_reducible repeat (first | refine blk_drewN ?_ _ | refine blk_drew ?_ | refine blk_alloc ?_ _)); exact BK227.out⟩, ⟨by (with_reducible repeat (first | refine blk_drewN ?_ _ | refine blk_drew ?_ | refine blk_alloc ?_ _)); refine blk_put (cs := #[.int .u64 0, .int .u64 0]) ?_ 1 _ rfl; (with_reducible repeat (first | refine blk_drewN ?_ _ | refine blk_drew ?_ | refine blk_alloc ?_ _)); refine blk_put (cs := #[.int .u64 0, .int .u64 0]) ?_ 0 _ rfl; (with_reducible repeat (first | refine blk_drewN ?_ _ | refine blk_drew ?_ | refine blk_alloc ?_ _)); exact BK228.out⟩, ⟨by repeat (first | (with_reducible first | exact HB.out | apply below_alloc | apply pw_below_drewN | apply below_drew1 | refine below_set ?_ GE226.out | refine below_set ?_ GE227.out | refine below_set ?_ GE228.out) | exact HB.out)⟩⟩
  case round =>
    clear H'
    try clear p2
    try clear c3
    try clear c5
    try clear c6
    try clear hcz7_0
    try clear hcz7_1
    try clear hfz7_0
    try clear hfz7_1
    obtain ⟨x229000_1, HA, HK1, BK226, BK227, BK228, HB⟩ := hrel
    cases gk with
    | zero => exact absurd HA.out (by simp [spec_NodeOf.l0])
    | succ k1 =>
      have H := HA.out
      clear HA
      simp only [spec_NodeOf.l0] at H
      by_cases c8 : 0 ≤ x229000_1
      · rw [if_pos c8] at H
        have c8b0 := eq_true c8
        have c8b1 : decide (0 ≤ x229000_1) = true := decide_eq_true c8
        clear c8
        obtain ⟨ji9, hji9⟩ : ∃ j_ : Int, (shr .u64 (IntKind.u64.wrap (a0_1 - a0_0)) x229000_1) = j_ := ⟨_, rfl⟩
        replace H : (if (ji9) > 1 then (spec_NodeOf.l0 k1 a0_0 a0_1 (IntKind.u64.wrap (x229000_1 + 1)) 0) else (some (x229000_1, shr .u64 a0_0 x229000_1))) = some (r1, r2) := by first | (rw [hji9] at H; exact H) | (simp only [hji9] at H ⊢; exact H)
        have hji9_ : ((IntKind.u64.wrap (a0_1 - a0_0)) / 2 ^ min x229000_1.toNat 64) = ji9 := hji9
        have hji9z : x229000_1 ≤ 64 → ((IntKind.u64.wrap (a0_1 - a0_0)) / 2 ^ x229000_1.toNat) = ji9 := shr_small hji9
        by_cases c10 : (ji9) > 1
        · rw [if_pos c10] at H
          have c10b0 : decide (1 < (ji9)) = true := decide_eq_true c10
          clear c10
          have H' := Aside0.mk H
          clear H
          have hnb11 := NB226_227.out
          have hnc11 := NB227_226.out
          have hnb12 := NB226_228.out
          have hnc12 := NB228_226.out
          have hcz13_0 : wr.cell? ⟨gb226, 0, none⟩ = some (.int .u64 a0_0) := (blk_cell BK226.out 0).trans rfl
          have hcz13_1 : wr.cell? ⟨gb226, 1, none⟩ = some (.int .u64 a0_1) := (blk_cell BK226.out 1).trans rfl
          have hfz13_0 := blk_frozen BK226.out 0
          have hfz13_1 := blk_frozen BK226.out 1
          have hnb14 := NB228_227.out
          have hnc14 := NB227_228.out
          have hcz15_0 : wr.cell? ⟨gb228, 0, none⟩ = some (.int .u64 x229000_1) := (blk_cell BK228.out 0).trans rfl
          have hcz15_1 : wr.cell? ⟨gb228, 1, none⟩ = some (.int .u64 0) := (blk_cell BK228.out 1).trans rfl
          have hfz15_0 := blk_frozen BK228.out 0
          have hfz15_1 := blk_frozen BK228.out 1
          go_wp2
          go_roundg k1
          case measure => have := HK1.out; omega
          case rel => exact ⟨(IntKind.u64.wrap (x229000_1 + 1)), H', ⟨by have := HK1.out; omega⟩, ⟨by (with_reducible repeat (first | refine blk_drewN ?_ _ | refine blk_drew ?_ | refine blk_alloc ?_ _)); refine blk_far ?_ NB226_228.out _; (with_reducible repeat (first | refine blk_drewN ?_ _ | refine blk_drew ?_ | refine blk_alloc ?_ _)); exact BK226.out⟩, ⟨by (with_reducible repeat (first | refine blk_drewN ?_ _ | refine blk_drew ?_ | refine blk_alloc ?_ _)); refine blk_far ?_ NB227_228.out _; (with_reducible repeat (first | refine blk_drewN ?_ _ | refine blk_drew ?_ | refine blk_alloc ?_ _)); exact BK227.out⟩, ⟨by (with_reducible repeat (first | refine blk_drewN ?_ _ | refine blk_drew ?_ | refine blk_alloc ?_ _)); refine blk_put (cs := #[.int .u64 x229000_1, .int .u64 0]) ?_ 0 _ rfl; (with_reducible repeat (first | refine blk_drewN ?_ _ | refine blk_drew ?_ | refine blk_alloc ?_ _)); exact BK228.out⟩, ⟨by repeat (first | (with_reducible first | exact HB.out | apply below_alloc | apply pw_below_drewN | apply below_drew1 | refine below_set ?_ GE226.out | refine below_set ?_ GE227.out | refine below_set ?_ GE228.out) | exact HB.out)⟩⟩
        · rw [if_neg c10] at H
          have c10b0 : decide (1 < (ji9)) = false := decide_eq_false c10
          clear c10
          have c16b0 := eq_true (of_decide_eq_true (by first | (with_reducible assumption) | assumption) : 0 ≤ x229000_1)
          obtain ⟨ji17, hji17⟩ : ∃ j_ : Int, (shr .u64 a0_0 x229000_1) = j_ := ⟨_, rfl⟩
          replace H : (some (x229000_1, ji17)) = some (r1, r2) := by first | (rw [hji17] at H; exact H) | (simp only [hji17] at H ⊢; exact H)
          have hji17_ : (a0_0 / 2 ^ min x229000_1.toNat 64) = ji17 := hji17
          have hji17z : x229000_1 ≤ 64 → (a0_0 / 2 ^ x229000_1.toNat) = ji17 := shr_small hji17
          simp only [Option.some.injEq, Prod.mk.injEq] at H
          obtain ⟨rfl, rfl⟩ := H
          have hnb18 := NB226_227.out
          have hnc18 := NB227_226.out
          have hnb19 := NB226_228.out
          have hnc19 := NB228_226.out
          have hcz20_0 : wr.cell? ⟨gb226, 0, none⟩ = some (.int .u64 a0_0) := (blk_cell BK226.out 0).trans rfl
          have hcz20_1 : wr.cell? ⟨gb226, 1, none⟩ = some (.int .u64 a0_1) := (blk_cell BK226.out 1).trans rfl
          have hfz20_0 := blk_frozen BK226.out 0
          have hfz20_1 := blk_frozen BK226.out 1
          have hnb21 := NB228_227.out
          have hnc21 := NB227_228.out
          have hcz22_0 : wr.cell? ⟨gb228, 0, none⟩ = some (.int .u64 x229000_1) := (blk_cell BK228.out 0).trans rfl
          have hcz22_1 : wr.cell? ⟨gb228, 1, none⟩ = some (.int .u64 0) := (blk_cell BK228.out 1).trans rfl
          have hfz22_0 := blk_frozen BK228.out 0
          have hfz22_1 := blk_frozen BK228.out 1
          have hcz23_0 : wr.cell? ⟨gb227, 0, none⟩ = some (.int .u64 0) := (blk_cell BK227.out 0).trans rfl
          have hcz23_1 : wr.cell? ⟨gb227, 1, none⟩ = some (.int .u64 0) := (blk_cell BK227.out 1).trans rfl
          have hfz23_0 := blk_frozen BK227.out 0
          have hfz23_1 := blk_frozen BK227.out 1
          go_wp2
          refine bodyPost_ret (results_cell_row rfl _ _ gb227 36 #[.int .u64 x229000_1, .int .u64 ji17] (0, 0) _ rfl (by (with_reducible repeat (first | refine blk_drewN ?_ _ | refine blk_drew ?_ | refine blk_alloc ?_ _)); refine blk_put (cs := #[.int .u64 x229000_1, .int .u64 0]) ?_ 1 _ rfl; (with_reducible repeat (first | refine blk_drewN ?_ _ | refine blk_drew ?_ | refine blk_alloc ?_ _)); refine blk_put (cs := #[.int .u64 0, .int .u64 0]) ?_ 0 _ rfl; (with_reducible repeat (first | refine blk_drewN ?_ _ | refine blk_drew ?_ | refine blk_alloc ?_ _)); refine blk_far ?_ NB227_228.out _; (with_reducible repeat (first | refine blk_drewN ?_ _ | refine blk_drew ?_ | refine blk_alloc ?_ _)); exact BK227.out) Tryd.underlying36 rfl (by kernel_rfl)) rfl ?_
          exact ⟨by first | rfl | (simp [errW_none, errW_some] <;> rfl) | (simp only [← hji9, ← hji17]; first | rfl | (simp [errW_none, errW_some] <;> rfl)) | (simp [*, errW_none, errW_some] <;> rfl), by repeat (first | (with_reducible first | exact HB.out | apply below_alloc | apply pw_below_drewN | apply below_drew1 | refine below_set ?_ GE226.out | refine below_set ?_ GE227.out | refine below_set ?_ GE228.out) | exact HB.out)⟩
      · rw [if_neg c8] at H
        exact absurd H (by simp)

end Go.Proofs.YthfgegaakfgjkaaDoor.PAll
