-- Written by a program of this session (wip/tools)
import Derived.Test.YthfgegaakfgjkaaDoorPAllx0
import Derived.Test.YthfgegaakfgjkaaDoorPAllx1
import Derived.Test.YthfgegaakfgjkaaDoorPAllx4
import Derived.Test.YthfgegaakfgjkaaDoorPAllx6
import Derived.Test.YthfgegaakfgjkaaDoorPAllx9
import Derived.Test.YthfgegaakfgjkaaDoorExtInc
namespace Go.Proofs.YthfgegaakfgjkaaDoor.PAll
open Go.RowKit Go.Proofs.YthfgegaakfgjkaaDoorW.PrintWords Go.Proofs.YthfgegaakfgjkaaDoorW.PrintLast Go.Proofs.YthfgegaakfgjkaaDoorW.PrintMore
attribute [local go_sem] max2_int min2_int max_two min_two max_three min_three max_four min_four   -- for this text's walks alone
set_option linter.unusedVariables false
set_option linter.unusedSimpArgs false

attribute [local go_sem high] eqA36
/-! ### laws_FnInclusion: function 5 -/
def laws_FnInclusion.f (k : Nat) (a0 : Int) (a1 : Int) : Option (Bool) := (impl_Inclusion.f k a0 a1).bind fun bt290 => (if a0 ≥ a1 then (some (!bt290.2.2.2.2.2)) else (if bt290.2.2.2.2.2 = true then ((spec_InclusionProof.f k a0 a1).bind fun bt299 => ((spec_SameProof.f k bt290.1 bt290.2.1 bt290.2.2.1 bt290.2.2.2.1 bt290.2.2.2.2.1 bt299.1 bt299.2.1 bt299.2.2.1 bt299.2.2.2.1 bt299.2.2.2.2).bind fun t306 => (some t306))) else (none)))
theorem laws_FnInclusion.mono : ∀ a0 a1 k, LeO (laws_FnInclusion.f k a0 a1) (laws_FnInclusion.f (k + 1) a0 a1) := by
  intro a0 a1 k
  unfold laws_FnInclusion.f
  repeat' first
      | (with_reducible exact impl_Inclusion.mono _ _ _)
      | (with_reducible exact spec_InclusionProof.mono _ _ _)
      | (with_reducible exact spec_SameProof.mono _ _ _ _ _ _ _ _ _ _ _)
      | (with_reducible exact LeO.refl _)
      | (with_reducible exact LeO.none _)
      | (with_reducible refine LeO.ite ?_ ?_)
      | (with_reducible refine LeO.bind ?_ (fun _ => ?_))
      | exact impl_Inclusion.mono _ _ _
      | exact spec_InclusionProof.mono _ _ _
      | exact spec_SameProof.mono _ _ _ _ _ _ _ _ _ _ _
      | exact LeO.none _
      | refine LeO.ite ?_ ?_
      | refine LeO.bind ?_ (fun _ => ?_)
def laws_FnInclusion.T4 : Bool × List (List Nat × List Nat) := (true, [([], []), ([0], [0]), ([1], [1]), ([1], [1]), ([1], [1]), ([3, 4, 1, 1], [1, 3, 4]), ([2, 5, 5, 1], [1, 2, 5]), ([1, 6], [1, 6]), ([7, 6, 0, 1, 2, 3, 4, 5, 6, 7], [7])])
def laws_FnInclusion.B4 : List Nat := [0, 1, 3, 3, 3, 27, 63, 127, 255]
theorem laws_FnInclusion.tab4 : rtab .any (opsOf Tryd.f5 4) = laws_FnInclusion.T4 := by kernel_rfl
theorem laws_FnInclusion.bits4 : waitsOk laws_FnInclusion.T4.2 laws_FnInclusion.B4 = true := by kernel_rfl
set_option maxHeartbeats 8000000 in
set_option maxRecDepth 100000 in
theorem laws_FnInclusion.calls (k : Nat) (a0 : Int) (a1 : Int) (r : Bool) (w : World) (hG : Glob w) (h : laws_FnInclusion.f k a0 a1 = some r) :
    Calls Tryd.prog 5 #[.int .u64 a0, .int .u64 a1] w fun e w' => e = .returned (.bool r) ∧ Below w.heap.size w w' := by
  have hu38 := Tryd.underlying38
  have HB := Aside0.mk (Below.refl w.heap.size w)
  have H : ((impl_Inclusion.f k a0 a1).bind fun bt290 => (if a0 ≥ a1 then (some (!bt290.2.2.2.2.2)) else (if bt290.2.2.2.2.2 = true then ((spec_InclusionProof.f k a0 a1).bind fun bt299 => ((spec_SameProof.f k bt290.1 bt290.2.1 bt290.2.2.1 bt290.2.2.2.1 bt290.2.2.2.2.1 bt299.1 bt299.2.1 bt299.2.2.1 bt299.2.2.2.1 bt299.2.2.2.2).bind fun t306 => (some t306))) else (none)))) = some r := h
  clear h
  replace H := Option.bind_eq_some_iff.mp H
  obtain ⟨⟨t290, t293, t294, t295, t296, t297⟩, A30, H⟩ := H
  replace H : (if a0 ≥ a1 then (some (!t297)) else (if t297 = true then ((spec_InclusionProof.f k a0 a1).bind fun bt299 => ((spec_SameProof.f k t290 t293 t294 t295 t296 bt299.1 bt299.2.1 bt299.2.2.1 bt299.2.2.2.1 bt299.2.2.2.2).bind fun t306 => (some t306))) else (none))) = some r := H
  have A3 := Aside0.mk A30
  clear A30
  by_cases c4 : a0 ≥ a1
  · rw [if_pos c4] at H
    have c4b0 : decide (a1 ≤ a0) = true := decide_eq_true c4
    clear c4
    obtain rfl := Option.some.inj H
    go_enter Tryd.func5, Tryd.ntmps5
    go_wp2_with (first | ((with_reducible refine gate_callee (f := 13) rfl ?_); refine goesL_ (some 10) rfl rfl Tryd.func13 (by kernel_rfl) rfl #[.int .u64 a0, .int .u64 a1] rfl (by (try simp only [List.map_toArray, List.map_cons, List.map_nil]); first | done | rfl | (simp only [List.length_drop, List.length_take]; rfl)) ?_; (with_reducible refine (impl_Inclusion.calls k a0 a1 t290 t293 t294 t295 t296 t297 _ ?side1 A3.out).mono ?_); (case side1 => exact Glob.below hG (by repeat (first | (with_reducible first | exact HB.out | apply below_alloc | apply pw_below_drewN | apply below_drew1) | exact HB.out))); rintro e w5 ⟨v291, rfl, ho0, hb⟩; refine ⟨_, rfl, ?_⟩; have n0_ := Aside0.mk (Kd.R_lower ho0 (below_size (by repeat (first | (with_reducible first | exact HB.out | apply below_alloc | apply pw_below_drewN | apply below_drew1) | exact HB.out)))); have n1_ := Aside0.mk (below_step (by repeat (first | (with_reducible first | exact HB.out | apply below_alloc | apply pw_below_drewN | apply below_drew1) | exact HB.out)) hb); clear HB; have HO292 := n0_; have HB := n1_; clear n0_ n1_; (try clear hb); (try clear hb2); (try clear hk); (try clear hi); (try clear ho0)) | ((with_reducible refine gate_dst (N := 5) rfl ?_); refine box_event ?hg (N := 5) ?hd (cs := #[.slice none 0 0, .int .u64 0, .int .u64 0, .int .i64 0, .int .i64 0]) (t := 38) ?hr ?_; (case hd => rfl); (case hg => rfl); (case hr => first | (go_simp; done) | (go_simp; rfl)); intro gb298 hg w6 hbox hb; have n0_ := Aside0.mk (Kd.R_below (by (with_reducible repeat (first | apply Kd.R_alloc | apply Kd.R_drewN | apply Kd.R_drew)); exact HO292.out) hb); have n1_ := Aside0.mk (below_step (by repeat (first | (with_reducible first | exact HB.out | apply below_alloc | apply pw_below_drewN | apply below_drew1) | exact HB.out)) hb); have n2_ := Aside0.mk (hbox); have n3_ := Aside0.mk ((by rw [hg]; exact (below_size (by repeat (first | (with_reducible first | exact HB.out | apply below_alloc | apply pw_below_drewN | apply below_drew1) | exact HB.out))) : w.heap.size ≤ gb298)); have n4_ := Aside0.mk ((by rw [hg]; exact (below_size (by repeat (first | (with_reducible first | exact HB.out | apply below_alloc | apply pw_below_drewN | apply below_drew1) | exact HB.out))) : w.heap.size ≤ gb298)); clear HO292; clear HB; have HO292 := n0_; have HB := n1_; have BK298 := n2_; have GW298 := n3_; have GE298 := n4_; clear n0_ n1_ n2_ n3_ n4_; clear hb hbox hg; obtain ⟨Ao7, co7, eo7⟩ := Kd.R_slice HO292.out; subst eo7; have hcz8_0 : w6.cell? ⟨gb298, 0, none⟩ = some (.slice none 0 0) := (blk_cell BK298.out 0).trans rfl; have hcz8_1 : w6.cell? ⟨gb298, 1, none⟩ = some (.int .u64 0) := (blk_cell BK298.out 1).trans rfl; have hcz8_2 : w6.cell? ⟨gb298, 2, none⟩ = some (.int .u64 0) := (blk_cell BK298.out 2).trans rfl; have hcz8_3 : w6.cell? ⟨gb298, 3, none⟩ = some (.int .i64 0) := (blk_cell BK298.out 3).trans rfl; have hcz8_4 : w6.cell? ⟨gb298, 4, none⟩ = some (.int .i64 0) := (blk_cell BK298.out 4).trans rfl; have hfz8_0 := blk_frozen BK298.out 0; have hfz8_1 := blk_frozen BK298.out 1; have hfz8_2 := blk_frozen BK298.out 2; have hfz8_3 := blk_frozen BK298.out 3; have hfz8_4 := blk_frozen BK298.out 4))
    go_ret
    exact ⟨by first | rfl | (simp [errW_none, errW_some] <;> rfl) | (simp [*, errW_none, errW_some] <;> rfl), by repeat (first | (with_reducible first | exact HB.out | apply below_alloc | apply pw_below_drewN | apply below_drew1 | refine below_set ?_ GE298.out) | exact HB.out)⟩
  · rw [if_neg c4] at H
    have c4b0 : decide (a1 ≤ a0) = false := decide_eq_false c4
    clear c4
    by_cases c9 : t297 = true
    · subst c9
      have H1 : ((spec_InclusionProof.f k a0 a1).bind fun bt299 => ((spec_SameProof.f k t290 t293 t294 t295 t296 bt299.1 bt299.2.1 bt299.2.2.1 bt299.2.2.2.1 bt299.2.2.2.2).bind fun t306 => (some t306))) = some r := by rw [if_pos rfl] at H; exact H
      clear H
      have H := H1
      clear H1
      replace H := Option.bind_eq_some_iff.mp H
      obtain ⟨⟨t299, t302, t303, t304, t305⟩, A100, H⟩ := H
      replace H : ((spec_SameProof.f k t290 t293 t294 t295 t296 t299 t302 t303 t304 t305).bind fun t306 => (some t306)) = some r := H
      have A10 := Aside0.mk A100
      clear A100
      replace H := Option.bind_eq_some_iff.mp H
      obtain ⟨t306, A110, H⟩ := H
      replace H : (some t306) = some r := H
      have A11 := Aside0.mk A110
      clear A110
      obtain rfl := Option.some.inj H
      go_enter Tryd.func5, Tryd.ntmps5
      try go_wp2_with (first | ((with_reducible refine gate_callee (f := 13) rfl ?_); refine goesL_ (some 10) rfl rfl Tryd.func13 (by kernel_rfl) rfl #[.int .u64 a0, .int .u64 a1] rfl (by (try simp only [List.map_toArray, List.map_cons, List.map_nil]); first | done | rfl | (simp only [List.length_drop, List.length_take]; rfl)) ?_; (with_reducible refine (impl_Inclusion.calls k a0 a1 t290 t293 t294 t295 t296 true _ ?side1 A3.out).mono ?_); (case side1 => exact Glob.below hG (by repeat (first | (with_reducible first | exact HB.out | apply below_alloc | apply pw_below_drewN | apply below_drew1) | exact HB.out))); rintro e w12 ⟨v291, rfl, ho0, hb⟩; refine ⟨_, rfl, ?_⟩; have n0_ := Aside0.mk (Kd.R_lower ho0 (below_size (by repeat (first | (with_reducible first | exact HB.out | apply below_alloc | apply pw_below_drewN | apply below_drew1) | exact HB.out)))); have n1_ := Aside0.mk (below_step (by repeat (first | (with_reducible first | exact HB.out | apply below_alloc | apply pw_below_drewN | apply below_drew1) | exact HB.out)) hb); clear HB; have HO292 := n0_; have HB := n1_; clear n0_ n1_; (try clear hb); (try clear hb2); (try clear hk); (try clear hi); (try clear ho0)) | ((with_reducible refine gate_dst (N := 5) rfl ?_); refine box_event ?hg (N := 5) ?hd (cs := #[.slice none 0 0, .int .u64 0, .int .u64 0, .int .i64 0, .int .i64 0]) (t := 38) ?hr ?_; (case hd => rfl); (case hg => rfl); (case hr => first | (go_simp; done) | (go_simp; rfl)); intro gb298 hg w13 hbox hb; have n0_ := Aside0.mk (Kd.R_below (by (with_reducible repeat (first | apply Kd.R_alloc | apply Kd.R_drewN | apply Kd.R_drew)); exact HO292.out) hb); have n1_ := Aside0.mk (below_step (by repeat (first | (with_reducible first | exact HB.out | apply below_alloc | apply pw_below_drewN | apply below_drew1) | exact HB.out)) hb); have n2_ := Aside0.mk (hbox); have n3_ := Aside0.mk ((by rw [hg]; exact (below_size (by repeat (first | (with_reducible first | exact HB.out | apply below_alloc | apply pw_below_drewN | apply below_drew1) | exact HB.out))) : w.heap.size ≤ gb298)); have n4_ := Aside0.mk ((by rw [hg]; exact (below_size (by repeat (first | (with_reducible first | exact HB.out | apply below_alloc | apply pw_below_drewN | apply below_drew1) | exact HB.out))) : w.heap.size ≤ gb298)); clear HO292; clear HB; have HO292 := n0_; have HB := n1_; have BK298 := n2_; have GW298 := n3_; have GE298 := n4_; clear n0_ n1_ n2_ n3_ n4_; clear hb hbox hg; obtain ⟨Ao14, co14, eo14⟩ := Kd.R_slice HO292.out; subst eo14; have hcz15_0 : w13.cell? ⟨gb298, 0, none⟩ = some (.slice none 0 0) := (blk_cell BK298.out 0).trans rfl; have hcz15_1 : w13.cell? ⟨gb298, 1, none⟩ = some (.int .u64 0) := (blk_cell BK298.out 1).trans rfl; have hcz15_2 : w13.cell? ⟨gb298, 2, none⟩ = some (.int .u64 0) := (blk_cell BK298.out 2).trans rfl; have hcz15_3 : w13.cell? ⟨gb298, 3, none⟩ = some (.int .i64 0) := (blk_cell BK298.out 3).trans rfl; have hcz15_4 : w13.cell? ⟨gb298, 4, none⟩ = some (.int .i64 0) := (blk_cell BK298.out 4).trans rfl; have hfz15_0 := blk_frozen BK298.out 0; have hfz15_1 := blk_frozen BK298.out 1; have hfz15_2 := blk_frozen BK298.out 2; have hfz15_3 := blk_frozen BK298.out 3; have hfz15_4 := blk_frozen BK298.out 4))
      have n0_ : Aside0 (Kd.R k36 36 (((((w13.setCell ⟨gb298, 0, none⟩ (.slice Ao14 t290.length co14)).setCell ⟨gb298, 1, none⟩ (.int .u64 t293)).setCell ⟨gb298, 2, none⟩ (.int .u64 t294)).setCell ⟨gb298, 3, none⟩ (.int .i64 t295)).setCell ⟨gb298, 4, none⟩ (.int .i64 t296)) w.heap.size (fun _ => True) (.slice Ao14 t290.length co14) t290) := ⟨by (with_reducible repeat (first | apply Kd.R_alloc | apply Kd.R_drewN | apply Kd.R_drew)); exact Kd.R_mono (Kd.R_far (p := ⟨gb298, 4, none⟩) (Kd.R_far (p := ⟨gb298, 3, none⟩) (Kd.R_far (p := ⟨gb298, 2, none⟩) (Kd.R_far (p := ⟨gb298, 1, none⟩) (Kd.R_far (p := ⟨gb298, 0, none⟩) (Kd.R_types HO292.out BK298.out (by decide)) (fun _ hk => hk.2) (.slice Ao14 t290.length co14)) (fun _ hk => hk.2) (.int .u64 t293)) (fun _ hk => hk.2) (.int .u64 t294)) (fun _ hk => hk.2) (.int .i64 t295)) (fun _ hk => hk.2) (.int .i64 t296)) (fun _ hk => trivial)⟩
      have n1_ : Aside0 ((((((w13.setCell ⟨gb298, 0, none⟩ (.slice Ao14 t290.length co14)).setCell ⟨gb298, 1, none⟩ (.int .u64 t293)).setCell ⟨gb298, 2, none⟩ (.int .u64 t294)).setCell ⟨gb298, 3, none⟩ (.int .i64 t295)).setCell ⟨gb298, 4, none⟩ (.int .i64 t296)).heap[gb298]? = some (.cells #[.slice Ao14 t290.length co14, .int .u64 t293, .int .u64 t294, .int .i64 t295, .int .i64 t296] 38 (0, 0))) := ⟨by (with_reducible repeat (first | refine blk_drewN ?_ _ | refine blk_drew ?_ | refine blk_alloc ?_ _)); refine blk_put (cs := #[.slice Ao14 t290.length co14, .int .u64 t293, .int .u64 t294, .int .i64 t295, .int .i64 0]) ?_ 4 _ rfl; (with_reducible repeat (first | refine blk_drewN ?_ _ | refine blk_drew ?_ | refine blk_alloc ?_ _)); refine blk_put (cs := #[.slice Ao14 t290.length co14, .int .u64 t293, .int .u64 t294, .int .i64 0, .int .i64 0]) ?_ 3 _ rfl; (with_reducible repeat (first | refine blk_drewN ?_ _ | refine blk_drew ?_ | refine blk_alloc ?_ _)); refine blk_put (cs := #[.slice Ao14 t290.length co14, .int .u64 t293, .int .u64 0, .int .i64 0, .int .i64 0]) ?_ 2 _ rfl; (with_reducible repeat (first | refine blk_drewN ?_ _ | refine blk_drew ?_ | refine blk_alloc ?_ _)); refine blk_put (cs := #[.slice Ao14 t290.length co14, .int .u64 0, .int .u64 0, .int .i64 0, .int .i64 0]) ?_ 1 _ rfl; (with_reducible repeat (first | refine blk_drewN ?_ _ | refine blk_drew ?_ | refine blk_alloc ?_ _)); refine blk_put (cs := #[.slice none 0 0, .int .u64 0, .int .u64 0, .int .i64 0, .int .i64 0]) ?_ 0 _ rfl; (with_reducible repeat (first | refine blk_drewN ?_ _ | refine blk_drew ?_ | refine blk_alloc ?_ _)); exact BK298.out⟩
      have n2_ : Aside0 (Below w.heap.size w (((((w13.setCell ⟨gb298, 0, none⟩ (.slice Ao14 t290.length co14)).setCell ⟨gb298, 1, none⟩ (.int .u64 t293)).setCell ⟨gb298, 2, none⟩ (.int .u64 t294)).setCell ⟨gb298, 3, none⟩ (.int .i64 t295)).setCell ⟨gb298, 4, none⟩ (.int .i64 t296))) := ⟨by repeat (first | (with_reducible first | exact HB.out | apply below_alloc | apply pw_below_drewN | apply below_drew1 | refine below_set ?_ GE298.out) | exact HB.out)⟩
      (try clear HO292)
      (try clear BK298)
      (try clear HB)
      generalize (((((w13.setCell ⟨gb298, 0, none⟩ (.slice Ao14 t290.length co14)).setCell ⟨gb298, 1, none⟩ (.int .u64 t293)).setCell ⟨gb298, 2, none⟩ (.int .u64 t294)).setCell ⟨gb298, 3, none⟩ (.int .i64 t295)).setCell ⟨gb298, 4, none⟩ (.int .i64 t296)) = w16 at n0_ n1_ n2_ ⊢
      have HO292 := n0_
      have BK298 := n1_
      have HB := n2_
      clear n0_ n1_ n2_
      (try (rw [drewN_self w16]; generalize hq_ : World.drewN w16 _ = w16; have n0_ : Aside0 (Kd.R k36 36 w16 w.heap.size (fun _ => True) (.slice Ao14 t290.length co14) t290) := ⟨by rw [← hq_]; exact (by (with_reducible repeat (first | apply Kd.R_alloc | apply Kd.R_drewN | apply Kd.R_drew)); exact HO292.out)⟩; have n1_ : Aside0 (w16.heap[gb298]? = some (.cells #[.slice Ao14 t290.length co14, .int .u64 t293, .int .u64 t294, .int .i64 t295, .int .i64 t296] 38 (0, 0))) := ⟨by rw [← hq_]; exact (by (with_reducible repeat (first | refine blk_drewN ?_ _ | refine blk_drew ?_ | refine blk_alloc ?_ _)); exact BK298.out)⟩; have n2_ : Aside0 (Below w.heap.size w w16) := ⟨by rw [← hq_]; exact (by repeat (first | (with_reducible first | exact HB.out | apply below_alloc | apply pw_below_drewN | apply below_drew1 | refine below_set ?_ GE298.out) | exact HB.out))⟩; clear HO292 BK298 HB hq_; have HO292 := n0_; have BK298 := n1_; have HB := n2_; clear n0_ n1_ n2_))
      have n0_ := Aside0.mk (Kd.R_drew HO292.out)
      have n1_ := Aside0.mk (blk_drew BK298.out)
      have n2_ := Aside0.mk (below_drew1 HB.out)
      clear HO292
      clear BK298
      clear HB
      have HO292 := n0_
      have BK298 := n1_
      have HB := n2_
      clear n0_ n1_ n2_
      refine start_ (n := 9) (S := fun w' => w'.cell? ⟨gb298, 0, none⟩ = some (.slice Ao14 t290.length co14) ∧ w'.cell? ⟨gb298, 1, none⟩ = some (.int .u64 t293) ∧ w'.cell? ⟨gb298, 2, none⟩ = some (.int .u64 t294) ∧ w'.cell? ⟨gb298, 3, none⟩ = some (.int .i64 t295) ∧ w'.cell? ⟨gb298, 4, none⟩ = some (.int .i64 t296)) (ds := []) #[false, false, false, false, false, false, false, false, false] (by kernel_rfl) rfl rfl ⟨(blk_cell BK298.out 0).trans rfl, (blk_cell BK298.out 1).trans rfl, (blk_cell BK298.out 2).trans rfl, (blk_cell BK298.out 3).trans rfl, (blk_cell BK298.out 4).trans rfl⟩ (fun hHeld => ?_); refine with_tabW laws_FnInclusion.tab4 laws_FnInclusion.bits4 (fun HT_ HW_ => ?_)
      generalize w16.drew = w17 at HO292 BK298 HB hHeld ⊢
      refine pure_ (i := 0) (N := some 18) (v := ?_) (a' := ?_) #[true, false, false, false, false, false, false, false, false] rfl rfl (any_of HT_.out (by kernel_rfl)) (fun _ _ _ h => h) (Or.inl ⟨by rfl, ?_⟩) ?_ ?_
      rotate_left
      · intro w'
        go_simp
        with_reducible rfl
      rotate_left
      · simp only [Act.put, List.setIfInBounds_toArray, List.set_cons_zero, List.set_cons_succ, i64_w, i32_w]
        rfl
      refine pure_ (i := 1) (N := some 19) (v := ?_) (a' := ?_) #[true, true, false, false, false, false, false, false, false] rfl rfl (any_of HT_.out (by kernel_rfl)) (fun _ _ _ h => h) (Or.inl ⟨by rfl, ?_⟩) ?_ ?_
      rotate_left
      · intro w'
        go_simp
        with_reducible rfl
      rotate_left
      · simp only [Act.put, List.setIfInBounds_toArray, List.set_cons_zero, List.set_cons_succ, i64_w, i32_w]
        rfl
      refine pure_ (i := 3) (N := some 21) (v := ?_) (a' := ?_) #[true, true, false, true, false, false, false, false, false] rfl rfl (any_of HT_.out (by kernel_rfl)) (fun _ _ _ h => h) (Or.inl ⟨by rfl, ?_⟩) ?_ ?_
      rotate_left
      · intro w'
        go_simp
        with_reducible rfl
      rotate_left
      · simp only [Act.put, List.setIfInBounds_toArray, List.set_cons_zero, List.set_cons_succ, i64_w, i32_w]
        rfl
      refine pure_ (i := 4) (N := some 22) (v := ?_) (a' := ?_) #[true, true, false, true, true, false, false, false, false] rfl rfl (any_of HT_.out (by kernel_rfl)) (fun _ _ _ h => h) (Or.inl ⟨by rfl, ?_⟩) ?_ ?_
      rotate_left
      · intro w'
        go_simp
        with_reducible rfl
      rotate_left
      · simp only [Act.put, List.setIfInBounds_toArray, List.set_cons_zero, List.set_cons_succ, i64_w, i32_w]
        rfl
      refine take_ (i := 2) (N := some 20) (v := ?_) (a' := ?_) #[true, true, true, true, true, false, false, false, false] rfl rfl (take_ofW HT_.out HW_.out (by kernel_rfl)) (fun _ _ _ h => h) (Or.inl ⟨by rfl, ?_⟩) hHeld ?_ ?_
      rotate_left
      · rintro w' ⟨s0, s1, s2, s3, s4⟩
        go_simp
        with_reducible rfl
      rotate_left
      · simp only [Act.put, List.setIfInBounds_toArray, List.set_cons_zero, List.set_cons_succ, i64_w, i32_w]
        rfl
      refine one_ (i := 5) (N := some 23) #[true, true, true, true, true, true, false, false, false] rfl rfl (one_of HT_.out (by kernel_rfl)) (by decide) (fun K hK => ?_)
      refine goes_ Tryd.func15 (by kernel_rfl) rfl #[.int .u64 a0, .int .u64 a1] (by rfl) rfl rfl (by (try simp only [List.map_toArray, List.map_cons, List.map_nil]); first | done | rfl | (simp only [List.length_drop, List.length_take]; rfl)) ?_
      with_reducible refine (spec_InclusionProof.calls k a0 a1 t299 t302 t303 t304 t305 _ A10.out).mono ?_
      rintro e w18 ⟨v300, rfl, ho0, hb⟩
      refine ⟨_, rfl, ?_⟩
      have n0_ := Aside0.mk (Kd.R_elder' (by (with_reducible repeat (first | apply Kd.R_alloc | apply Kd.R_drewN | apply Kd.R_drew)); exact HO292.out) (Kd.R_base ho0) hb)
      have n1_ := Aside0.mk (Kd.R_lower (Kd.R_new' ho0 (Kd.R_lt (by (with_reducible repeat (first | apply Kd.R_alloc | apply Kd.R_drewN | apply Kd.R_drew)); exact HO292.out))) (below_size (by repeat (first | (with_reducible first | exact HB.out | apply below_alloc | apply pw_below_drewN | apply below_drew1 | refine below_set ?_ GE298.out) | exact HB.out))))
      have n2_ := Aside0.mk (blk_below (g := gb298) (o := .cells #[.slice Ao14 t290.length co14, .int .u64 t293, .int .u64 t294, .int .i64 t295, .int .i64 t296] 38 (0, 0)) (by (with_reducible repeat (first | refine blk_drewN ?_ _ | refine blk_drew ?_ | refine blk_alloc ?_ _)); exact BK298.out) hb)
      have n3_ := Aside0.mk (below_step (by repeat (first | (with_reducible first | exact HB.out | apply below_alloc | apply pw_below_drewN | apply below_drew1 | refine below_set ?_ GE298.out) | exact HB.out)) hb)
      clear HO292
      clear BK298
      clear HB
      have HO292 := n0_
      have HO301 := n1_
      have BK298 := n2_
      have HB := n3_
      clear n0_ n1_ n2_ n3_
      (try clear hb)
      (try clear hb2)
      (try clear hk)
      (try clear hi)
      (try clear ho0)
      obtain ⟨Ao19, co19, eo19⟩ := Kd.R_slice HO301.out
      (first | subst eo19 | (injection eo19 with f1_ f2_ f3_; have f4_ := f1_.symm; have f5_ := f3_.symm; clear f1_ f2_ f3_; subst f4_; subst f5_))
      refine hK.out _ _ ⟨(blk_cell BK298.out 0).trans rfl, (blk_cell BK298.out 1).trans rfl, (blk_cell BK298.out 2).trans rfl, (blk_cell BK298.out 3).trans rfl, (blk_cell BK298.out 4).trans rfl⟩ (fun hHeld => ?_)
      clear hK K
      refine norm_ (a' := ?_) ?_ ?_
      rotate_left
      · show Act.put _ (some 23) _ = _
        simp only [Act.put, List.setIfInBounds_toArray, List.set_cons_zero, List.set_cons_succ, i64_w, i32_w]
        rfl
      refine one_ (i := 6) (N := some 24) #[true, true, true, true, true, true, true, false, false] rfl rfl (one_of HT_.out (by kernel_rfl)) (by decide) (fun K hK => ?_)
      refine goes_ Tryd.func14 (by kernel_rfl) rfl #[.agg #[.slice Ao14 t290.length co14, .int .u64 t293, .int .u64 t294, .int .i64 t295, .int .i64 t296], .agg #[.slice Ao19 t299.length co19, .int .u64 t302, .int .u64 t303, .int .i64 t304, .int .i64 t305]] (by rfl) rfl rfl (by (try simp only [List.map_toArray, List.map_cons, List.map_nil]); first | done | rfl | (simp only [List.length_drop, List.length_take]; rfl)) ?_
      with_reducible refine (spec_SameProof.calls k _ _ t290 t293 t294 t295 t296 _ _ t299 t302 t303 t304 t305 t306 _ ?side1 ?side2 ?side3 ?side4 A11.out).mono ?_
      (case side1 => repeat (first | exact (Kd.R_reads' HO292.out).2.2 | (with_reducible refine Kd.C_alloc ?_ _) | (with_reducible refine Kd.C_drewN ?_ _) | (with_reducible refine Kd.C_drew ?_)))
      (case side2 => exact (Kd.R_reads' HO292.out).2.1)
      (case side3 => repeat (first | exact (Kd.R_reads' HO301.out).2.2 | (with_reducible refine Kd.C_alloc ?_ _) | (with_reducible refine Kd.C_drewN ?_ _) | (with_reducible refine Kd.C_drew ?_)))
      (case side4 => exact (Kd.R_reads' HO301.out).2.1)
      rintro e w20 ⟨rfl, hb⟩
      refine ⟨_, rfl, ?_⟩
      have n0_ := Aside0.mk (Kd.R_below (by (with_reducible repeat (first | apply Kd.R_alloc | apply Kd.R_drewN | apply Kd.R_drew)); exact HO292.out) hb)
      have n1_ := Aside0.mk (Kd.R_below (by (with_reducible repeat (first | apply Kd.R_alloc | apply Kd.R_drewN | apply Kd.R_drew)); exact HO301.out) hb)
      have n2_ := Aside0.mk (blk_below (g := gb298) (o := .cells #[.slice Ao14 t290.length co14, .int .u64 t293, .int .u64 t294, .int .i64 t295, .int .i64 t296] 38 (0, 0)) (by (with_reducible repeat (first | refine blk_drewN ?_ _ | refine blk_drew ?_ | refine blk_alloc ?_ _)); exact BK298.out) hb)
      have n3_ := Aside0.mk (below_step (by repeat (first | (with_reducible first | exact HB.out | apply below_alloc | apply pw_below_drewN | apply below_drew1 | refine below_set ?_ GE298.out) | exact HB.out)) hb)
      clear HO292
      clear HO301
      clear BK298
      clear HB
      have HO292 := n0_
      have HO301 := n1_
      have BK298 := n2_
      have HB := n3_
      clear n0_ n1_ n2_ n3_
      (try clear hb)
      (try clear hb2)
      (try clear hk)
      (try clear hi)
      refine hK.out _ _ ⟨(blk_cell BK298.out 0).trans rfl, (blk_cell BK298.out 1).trans rfl, (blk_cell BK298.out 2).trans rfl, (blk_cell BK298.out 3).trans rfl, (blk_cell BK298.out 4).trans rfl⟩ (fun hHeld => ?_)
      clear hK K
      refine norm_ (a' := ?_) ?_ ?_
      rotate_left
      · show Act.put _ (some 24) _ = _
        simp only [Act.put, List.setIfInBounds_toArray, List.set_cons_zero, List.set_cons_succ, i64_w, i32_w]
        rfl
      refine pure_ (i := 7) (N := some 25) (v := ?_) (a' := ?_) #[true, true, true, true, true, true, true, true, false] rfl rfl (any_of HT_.out (by kernel_rfl)) (fun _ _ _ h => h) (Or.inl ⟨by rfl, ?_⟩) ?_ ?_
      rotate_left
      · intro w'
        go_simp
        with_reducible rfl
      rotate_left
      · simp only [Act.put, List.setIfInBounds_toArray, List.set_cons_zero, List.set_cons_succ, i64_w, i32_w]
        rfl
      refine pure_ (i := 8) (N := some 4) (v := ?_) (a' := ?_) #[true, true, true, true, true, true, true, true, true] rfl rfl (any_of HT_.out (by kernel_rfl)) (fun _ _ _ h => h) (Or.inl ⟨by rfl, ?_⟩) ?_ ?_
      rotate_left
      · intro w'
        go_simp
        with_reducible rfl
      rotate_left
      · simp only [Act.put, List.setIfInBounds_toArray, List.set_cons_zero, List.set_cons_succ, i64_w, i32_w]
        rfl
      refine done_ (done_of HT_.out (by kernel_rfl)) ?_
      try go_wp2
      go_ret
      exact ⟨by first | rfl | (simp [errW_none, errW_some] <;> rfl) | (simp [*, errW_none, errW_some] <;> rfl), by repeat (first | (with_reducible first | exact HB.out | apply below_alloc | apply pw_below_drewN | apply below_drew1 | refine below_set ?_ GE298.out) | exact HB.out)⟩
    · replace c9 := Bool.eq_false_iff.mpr c9
      subst c9
      have H1 : (none) = some r := by rw [if_neg (show ¬ (false = true) by decide)] at H; exact H
      clear H
      have H := H1
      clear H1
      exact absurd H (by simp)

/-- THE ONE PURE STATEMENT of laws_FnInclusion: yours. -/
def laws_FnInclusion.Pure : Prop := ∀ (a0 : Int) (a1 : Int), (Lit.int .u64 a0).wf = true → (Lit.int .u64 a1).wf = true → ∃ k, laws_FnInclusion.f k a0 a1 = some true
theorem laws_FnInclusion.walk (P : laws_FnInclusion.Pure) (a0 : Int) (a1 : Int) (w : World) (hG : Glob w) (w0 : (Lit.int .u64 a0).wf = true) (w1 : (Lit.int .u64 a1).wf = true) :
    Calls Tryd.prog 5 #[.int .u64 a0, .int .u64 a1] w fun e w' => e = .returned (.bool true) ∧ Below w.heap.size w w' := by
  obtain ⟨k, h⟩ := P a0 a1 w0 w1
  refine (laws_FnInclusion.calls k a0 a1 true w hG h).mono ?_
  rintro e w' ⟨rfl, hd⟩
  exact ⟨rfl, hd⟩
end Go.Proofs.YthfgegaakfgjkaaDoor.PAll
