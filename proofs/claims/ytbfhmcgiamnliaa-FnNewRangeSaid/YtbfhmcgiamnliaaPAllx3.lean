-- Written by a program of this session (wip/tools)
import Derived.Test.YtbfhmcgiamnliaaPAllx0
import Derived.Test.YtbfhmcgiamnliaaPAllx1
import Derived.Test.YtbfhmcgiamnliaaPAllx2
import Derived.Test.YtbfhmcgiamnliaaExtRange
namespace Go.Proofs.Ytbfhmcgiamnliaa.PAll
open Go.RowKit Go.Proofs.YtbfhmcgiamnliaaW.PrintWords Go.Proofs.YtbfhmcgiamnliaaW.PrintLast Go.Proofs.YtbfhmcgiamnliaaW.PrintMore
attribute [local go_sem] max2_int min2_int max_two min_two max_three min_three max_four min_four   -- for this text's walks alone
set_option linter.unusedVariables false
set_option linter.unusedSimpArgs false

/-! ### laws_FnNewRange: function 4 -/
def laws_FnNewRange.f (k : Nat) (a0_0 : Int) (a0_1 : Int) (l0_2 : List (List Int)) : Option (Bool) := (laws_zzFits7.f k a0_0 a0_1 l0_2).bind fun t134 => (if t134 = true then ((impl_NewRange.f k a0_0 a0_1 l0_2).bind fun t135 => ((spec_ProperRange.f k a0_0 a0_1 l0_2).bind fun t136 => (some (t135 == t136)))) else (some true))
theorem laws_FnNewRange.mono : ∀ a0 a1 a2 k, LeO (laws_FnNewRange.f k a0 a1 a2) (laws_FnNewRange.f (k + 1) a0 a1 a2) := by
  intro a0 a1 a2 k
  unfold laws_FnNewRange.f
  repeat' first
      | (with_reducible exact impl_NewRange.mono _ _ _ _)
      | (with_reducible exact laws_zzFits7.mono _ _ _ _)
      | (with_reducible exact spec_ProperRange.mono _ _ _ _)
      | (with_reducible exact LeO.refl _)
      | (with_reducible exact LeO.none _)
      | (with_reducible refine LeO.ite ?_ ?_)
      | (with_reducible refine LeO.bind ?_ (fun _ => ?_))
      | exact impl_NewRange.mono _ _ _ _
      | exact laws_zzFits7.mono _ _ _ _
      | exact spec_ProperRange.mono _ _ _ _
      | exact LeO.none _
      | refine LeO.ite ?_ ?_
      | refine LeO.bind ?_ (fun _ => ?_)
set_option maxHeartbeats 8000000 in
set_option maxRecDepth 100000 in
theorem laws_FnNewRange.calls (k : Nat) (a0_0 : Int) (a0_1 : Int) (A0_2 : Option Addr) (c0_2 : Nat) (l0_2 : List (List Int)) (r : Bool) (w : World) (hr0_2 : Kd.C (Kd.slice 5 (Kd.int .u8)) w A0_2 l0_2.length l0_2) (hc0_2 : l0_2.length ≤ c0_2) (h : laws_FnNewRange.f k a0_0 a0_1 l0_2 = some r) :
    Calls Try.prog 4 #[.agg #[.int .u64 a0_0, .int .u64 a0_1, .slice A0_2 l0_2.length c0_2]] w fun e w' => e = .returned (.bool r) ∧ Below w.heap.size w w' := by
  have hu34 := Try.underlying34
  have HR0_2 := Aside0.mk hr0_2
  have HC0_2 := Aside0.mk hc0_2
  clear hr0_2 hc0_2
  have HB := Aside0.mk (Below.refl w.heap.size w)
  have H : ((laws_zzFits7.f k a0_0 a0_1 l0_2).bind fun t134 => (if t134 = true then ((impl_NewRange.f k a0_0 a0_1 l0_2).bind fun t135 => ((spec_ProperRange.f k a0_0 a0_1 l0_2).bind fun t136 => (some (t135 == t136)))) else (some true))) = some r := h
  clear h
  replace H := Option.bind_eq_some_iff.mp H
  obtain ⟨t134, A20, H⟩ := H
  replace H : (if t134 = true then ((impl_NewRange.f k a0_0 a0_1 l0_2).bind fun t135 => ((spec_ProperRange.f k a0_0 a0_1 l0_2).bind fun t136 => (some (t135 == t136)))) else (some true)) = some r := H
  have A2 := Aside0.mk A20
  clear A20
  by_cases c3 : t134 = true
  · subst c3
    have H1 : ((impl_NewRange.f k a0_0 a0_1 l0_2).bind fun t135 => ((spec_ProperRange.f k a0_0 a0_1 l0_2).bind fun t136 => (some (t135 == t136)))) = some r := by rw [if_pos rfl] at H; exact H
    clear H
    have H := H1
    clear H1
    replace H := Option.bind_eq_some_iff.mp H
    obtain ⟨t135, A40, H⟩ := H
    replace H : ((spec_ProperRange.f k a0_0 a0_1 l0_2).bind fun t136 => (some (t135 == t136))) = some r := H
    have A4 := Aside0.mk A40
    clear A40
    replace H := Option.bind_eq_some_iff.mp H
    obtain ⟨t136, A50, H⟩ := H
    replace H : (some (t135 == t136)) = some r := H
    have A5 := Aside0.mk A50
    clear A50
    obtain rfl := Option.some.inj H
    go_enter Try.func4, Try.ntmps4
    try go_wp2_with (first | ((with_reducible refine gate_dst (N := 1) rfl ?_); refine box_event ?hg (N := 1) ?hd (cs := #[.int .u64 a0_0, .int .u64 a0_1, .slice A0_2 l0_2.length c0_2]) (t := 34) ?hr ?_; (case hd => rfl); (case hg => rfl); (case hr => first | (go_simp; done) | (go_simp; rfl)); intro gb133 hg w6 hbox hb; have n0_ := Aside0.mk (below_step (by repeat (first | (with_reducible first | exact HB.out | apply below_alloc | apply pw_below_drewN | apply below_drew1) | exact HB.out)) hb); have n1_ := Aside0.mk (hbox); have n2_ := Aside0.mk ((by rw [hg]; exact (below_size (by repeat (first | (with_reducible first | exact HB.out | apply below_alloc | apply pw_below_drewN | apply below_drew1) | exact HB.out))) : w.heap.size ≤ gb133)); have n3_ := Aside0.mk ((by rw [hg]; exact (below_size (by repeat (first | (with_reducible first | exact HB.out | apply below_alloc | apply pw_below_drewN | apply below_drew1) | exact HB.out))) : w.heap.size ≤ gb133)); clear HB; have HB := n0_; have BK133 := n1_; have GW133 := n2_; have GE133 := n3_; clear n0_ n1_ n2_ n3_; clear hb hbox hg; have hcz7_0 : w6.cell? ⟨gb133, 0, none⟩ = some (.int .u64 a0_0) := (blk_cell BK133.out 0).trans rfl; have hcz7_1 : w6.cell? ⟨gb133, 1, none⟩ = some (.int .u64 a0_1) := (blk_cell BK133.out 1).trans rfl; have hcz7_2 : w6.cell? ⟨gb133, 2, none⟩ = some (.slice A0_2 l0_2.length c0_2) := (blk_cell BK133.out 2).trans rfl; have hfz7_0 := blk_frozen BK133.out 0; have hfz7_1 := blk_frozen BK133.out 1; have hfz7_2 := blk_frozen BK133.out 2) | ((with_reducible refine gate_callee (f := 13) rfl ?_); refine goesL_ (some 4) rfl rfl Try.func13 (by kernel_rfl) rfl #[.agg #[.int .u64 a0_0, .int .u64 a0_1, .slice A0_2 l0_2.length c0_2]] rfl (by (try simp only [List.map_toArray, List.map_cons, List.map_nil]); first | done | rfl | (simp only [List.length_drop, List.length_take]; rfl)) ?_; (with_reducible refine (laws_zzFits7.calls k a0_0 a0_1 _ _ l0_2 true _ ?side1 ?side2 A2.out).mono ?_); (case side1 => repeat (first | exact (Kd.C_below HR0_2.out HB.out) | (with_reducible refine Kd.C_alloc ?_ _) | (with_reducible refine Kd.C_drewN ?_ _) | (with_reducible refine Kd.C_drew ?_))); (case side2 => exact HC0_2.out); rintro e w8 ⟨rfl, hb⟩; refine ⟨_, rfl, ?_⟩; have n0_ := Aside0.mk (blk_below (g := gb133) (o := .cells #[.int .u64 a0_0, .int .u64 a0_1, .slice A0_2 l0_2.length c0_2] 34 (0, 0)) (by (with_reducible repeat (first | refine blk_drewN ?_ _ | refine blk_drew ?_ | refine blk_alloc ?_ _)); exact BK133.out) hb); have n1_ := Aside0.mk (below_step (by repeat (first | (with_reducible first | exact HB.out | apply below_alloc | apply pw_below_drewN | apply below_drew1 | refine below_set ?_ GE133.out) | exact HB.out)) hb); clear BK133; clear HB; have BK133 := n0_; have HB := n1_; clear n0_ n1_; (try clear hb); (try clear hb2); (try clear hk); (try clear hi)))
    (try (rw [drewN_self w8]; generalize hq_ : World.drewN w8 _ = w8; have n0_ : Aside0 (w8.heap[gb133]? = some (.cells #[.int .u64 a0_0, .int .u64 a0_1, .slice A0_2 l0_2.length c0_2] 34 (0, 0))) := ⟨by rw [← hq_]; exact (by (with_reducible repeat (first | refine blk_drewN ?_ _ | refine blk_drew ?_ | refine blk_alloc ?_ _)); exact BK133.out)⟩; have n1_ : Aside0 (Below w.heap.size w w8) := ⟨by rw [← hq_]; exact (by repeat (first | (with_reducible first | exact HB.out | apply below_alloc | apply pw_below_drewN | apply below_drew1 | refine below_set ?_ GE133.out) | exact HB.out))⟩; clear BK133 HB hq_; have BK133 := n0_; have HB := n1_; clear n0_ n1_))
    have n0_ := Aside0.mk (blk_drew BK133.out)
    have n1_ := Aside0.mk (below_drew1 HB.out)
    clear BK133
    clear HB
    have BK133 := n0_
    have HB := n1_
    clear n0_ n1_
    refine start_ (n := 6) (S := fun w' => w'.cell? ⟨gb133, 0, none⟩ = some (.int .u64 a0_0) ∧ w'.cell? ⟨gb133, 1, none⟩ = some (.int .u64 a0_1) ∧ w'.cell? ⟨gb133, 2, none⟩ = some (.slice A0_2 l0_2.length c0_2)) (ds := []) #[false, false, false, false, false, false] (by kernel_rfl) rfl rfl ⟨(blk_cell BK133.out 0).trans rfl, (blk_cell BK133.out 1).trans rfl, (blk_cell BK133.out 2).trans rfl⟩ (fun hHeld => ?_)
    generalize w8.drew = w9 at BK133 HB hHeld ⊢
    refine take_ (i := 0) (N := some 6) (v := ?_) (a' := ?_) #[true, false, false, false, false, false] rfl rfl (by kernel_rfl) (fun _ _ _ h => h) (Or.inl ⟨by rfl, ?_⟩) hHeld ?_ ?_
    rotate_left
    · rintro w' ⟨s0, s1, s2⟩
      go_simp
      with_reducible rfl
    rotate_left
    · simp only [Act.put, List.setIfInBounds_toArray, List.set_cons_zero, List.set_cons_succ, i64_w, i32_w]
      rfl
    refine take_ (i := 2) (N := some 8) (v := ?_) (a' := ?_) #[true, false, true, false, false, false] rfl rfl (by kernel_rfl) (fun _ _ _ h => h) (Or.inl ⟨by rfl, ?_⟩) hHeld ?_ ?_
    rotate_left
    · rintro w' ⟨s0, s1, s2⟩
      go_simp
      with_reducible rfl
    rotate_left
    · simp only [Act.put, List.setIfInBounds_toArray, List.set_cons_zero, List.set_cons_succ, i64_w, i32_w]
      rfl
    refine one_ (i := 1) (N := some 7) #[true, true, true, false, false, false] rfl rfl (by kernel_rfl) (by decide) (fun K hK => ?_)
    refine goes_ Try.func14 (by kernel_rfl) rfl #[.agg #[.int .u64 a0_0, .int .u64 a0_1, .slice A0_2 l0_2.length c0_2]] (by rfl) rfl rfl (by (try simp only [List.map_toArray, List.map_cons, List.map_nil]); first | done | rfl | (simp only [List.length_drop, List.length_take]; rfl)) ?_
    with_reducible refine (impl_NewRange.calls k a0_0 a0_1 _ _ l0_2 t135 _ ?side1 ?side2 A4.out).mono ?_
    (case side1 => repeat (first | exact (Kd.C_below HR0_2.out HB.out) | (with_reducible refine Kd.C_alloc ?_ _) | (with_reducible refine Kd.C_drewN ?_ _) | (with_reducible refine Kd.C_drew ?_)))
    (case side2 => exact HC0_2.out)
    rintro e w10 ⟨rfl, hb⟩
    refine ⟨_, rfl, ?_⟩
    have n0_ := Aside0.mk (blk_below (g := gb133) (o := .cells #[.int .u64 a0_0, .int .u64 a0_1, .slice A0_2 l0_2.length c0_2] 34 (0, 0)) (by (with_reducible repeat (first | refine blk_drewN ?_ _ | refine blk_drew ?_ | refine blk_alloc ?_ _)); exact BK133.out) hb)
    have n1_ := Aside0.mk (below_step (by repeat (first | (with_reducible first | exact HB.out | apply below_alloc | apply pw_below_drewN | apply below_drew1 | refine below_set ?_ GE133.out) | exact HB.out)) hb)
    clear BK133
    clear HB
    have BK133 := n0_
    have HB := n1_
    clear n0_ n1_
    (try clear hb)
    (try clear hb2)
    (try clear hk)
    (try clear hi)
    refine hK.out _ _ ⟨(blk_cell BK133.out 0).trans rfl, (blk_cell BK133.out 1).trans rfl, (blk_cell BK133.out 2).trans rfl⟩ (fun hHeld => ?_)
    clear hK K
    refine norm_ (a' := ?_) ?_ ?_
    rotate_left
    · show Act.put _ (some 7) _ = _
      simp only [Act.put, List.setIfInBounds_toArray, List.set_cons_zero, List.set_cons_succ, i64_w, i32_w]
      rfl
    refine one_ (i := 3) (N := some 9) #[true, true, true, true, false, false] rfl rfl (by kernel_rfl) (by decide) (fun K hK => ?_)
    refine goes_ Try.func15 (by kernel_rfl) rfl #[.agg #[.int .u64 a0_0, .int .u64 a0_1, .slice A0_2 l0_2.length c0_2]] (by rfl) rfl rfl (by (try simp only [List.map_toArray, List.map_cons, List.map_nil]); first | done | rfl | (simp only [List.length_drop, List.length_take]; rfl)) ?_
    with_reducible refine (spec_ProperRange.calls k a0_0 a0_1 _ _ l0_2 t136 _ ?side1 ?side2 A5.out).mono ?_
    (case side1 => repeat (first | exact (Kd.C_below HR0_2.out HB.out) | (with_reducible refine Kd.C_alloc ?_ _) | (with_reducible refine Kd.C_drewN ?_ _) | (with_reducible refine Kd.C_drew ?_)))
    (case side2 => exact HC0_2.out)
    rintro e w11 ⟨rfl, hb⟩
    refine ⟨_, rfl, ?_⟩
    have n0_ := Aside0.mk (blk_below (g := gb133) (o := .cells #[.int .u64 a0_0, .int .u64 a0_1, .slice A0_2 l0_2.length c0_2] 34 (0, 0)) (by (with_reducible repeat (first | refine blk_drewN ?_ _ | refine blk_drew ?_ | refine blk_alloc ?_ _)); exact BK133.out) hb)
    have n1_ := Aside0.mk (below_step (by repeat (first | (with_reducible first | exact HB.out | apply below_alloc | apply pw_below_drewN | apply below_drew1 | refine below_set ?_ GE133.out) | exact HB.out)) hb)
    clear BK133
    clear HB
    have BK133 := n0_
    have HB := n1_
    clear n0_ n1_
    (try clear hb)
    (try clear hb2)
    (try clear hk)
    (try clear hi)
    refine hK.out _ _ ⟨(blk_cell BK133.out 0).trans rfl, (blk_cell BK133.out 1).trans rfl, (blk_cell BK133.out 2).trans rfl⟩ (fun hHeld => ?_)
    clear hK K
    refine norm_ (a' := ?_) ?_ ?_
    rotate_left
    · show Act.put _ (some 9) _ = _
      simp only [Act.put, List.setIfInBounds_toArray, List.set_cons_zero, List.set_cons_succ, i64_w, i32_w]
      rfl
    refine pure_ (i := 4) (N := some 10) (v := ?_) (a' := ?_) #[true, true, true, true, true, false] rfl rfl (by kernel_rfl) (fun _ _ _ h => h) (Or.inl ⟨by rfl, ?_⟩) ?_ ?_
    rotate_left
    · intro w'
      go_simp
      with_reducible rfl
    rotate_left
    · simp only [Act.put, List.setIfInBounds_toArray, List.set_cons_zero, List.set_cons_succ, i64_w, i32_w]
      rfl
    refine pure_ (i := 5) (N := some 2) (v := ?_) (a' := ?_) #[true, true, true, true, true, true] rfl rfl (by kernel_rfl) (fun _ _ _ h => h) (Or.inl ⟨by rfl, ?_⟩) ?_ ?_
    rotate_left
    · intro w'
      go_simp
      with_reducible rfl
    rotate_left
    · simp only [Act.put, List.setIfInBounds_toArray, List.set_cons_zero, List.set_cons_succ, i64_w, i32_w]
      rfl
    refine done_ (by kernel_rfl) ?_
    try go_wp2
    go_ret
    exact ⟨by first | rfl | (simp [errW_none, errW_some] <;> rfl) | (simp [*, errW_none, errW_some] <;> rfl), by repeat (first | (with_reducible first | exact HB.out | apply below_alloc | apply pw_below_drewN | apply below_drew1 | refine below_set ?_ GE133.out) | exact HB.out)⟩
  · replace c3 := Bool.eq_false_iff.mpr c3
    subst c3
    have H1 : (some true) = some r := by rw [if_neg (show ¬ (false = true) by decide)] at H; exact H
    clear H
    have H := H1
    clear H1
    obtain rfl := Option.some.inj H
    go_enter Try.func4, Try.ntmps4
    go_wp2_with (first | ((with_reducible refine gate_dst (N := 1) rfl ?_); refine box_event ?hg (N := 1) ?hd (cs := #[.int .u64 a0_0, .int .u64 a0_1, .slice A0_2 l0_2.length c0_2]) (t := 34) ?hr ?_; (case hd => rfl); (case hg => rfl); (case hr => first | (go_simp; done) | (go_simp; rfl)); intro gb133 hg w12 hbox hb; have n0_ := Aside0.mk (below_step (by repeat (first | (with_reducible first | exact HB.out | apply below_alloc | apply pw_below_drewN | apply below_drew1) | exact HB.out)) hb); have n1_ := Aside0.mk (hbox); have n2_ := Aside0.mk ((by rw [hg]; exact (below_size (by repeat (first | (with_reducible first | exact HB.out | apply below_alloc | apply pw_below_drewN | apply below_drew1) | exact HB.out))) : w.heap.size ≤ gb133)); have n3_ := Aside0.mk ((by rw [hg]; exact (below_size (by repeat (first | (with_reducible first | exact HB.out | apply below_alloc | apply pw_below_drewN | apply below_drew1) | exact HB.out))) : w.heap.size ≤ gb133)); clear HB; have HB := n0_; have BK133 := n1_; have GW133 := n2_; have GE133 := n3_; clear n0_ n1_ n2_ n3_; clear hb hbox hg; have hcz13_0 : w12.cell? ⟨gb133, 0, none⟩ = some (.int .u64 a0_0) := (blk_cell BK133.out 0).trans rfl; have hcz13_1 : w12.cell? ⟨gb133, 1, none⟩ = some (.int .u64 a0_1) := (blk_cell BK133.out 1).trans rfl; have hcz13_2 : w12.cell? ⟨gb133, 2, none⟩ = some (.slice A0_2 l0_2.length c0_2) := (blk_cell BK133.out 2).trans rfl; have hfz13_0 := blk_frozen BK133.out 0; have hfz13_1 := blk_frozen BK133.out 1; have hfz13_2 := blk_frozen BK133.out 2) | ((with_reducible refine gate_callee (f := 13) rfl ?_); refine goesL_ (some 4) rfl rfl Try.func13 (by kernel_rfl) rfl #[.agg #[.int .u64 a0_0, .int .u64 a0_1, .slice A0_2 l0_2.length c0_2]] rfl (by (try simp only [List.map_toArray, List.map_cons, List.map_nil]); first | done | rfl | (simp only [List.length_drop, List.length_take]; rfl)) ?_; (with_reducible refine (laws_zzFits7.calls k a0_0 a0_1 _ _ l0_2 false _ ?side1 ?side2 A2.out).mono ?_); (case side1 => repeat (first | exact (Kd.C_below HR0_2.out HB.out) | (with_reducible refine Kd.C_alloc ?_ _) | (with_reducible refine Kd.C_drewN ?_ _) | (with_reducible refine Kd.C_drew ?_))); (case side2 => exact HC0_2.out); rintro e w14 ⟨rfl, hb⟩; refine ⟨_, rfl, ?_⟩; have n0_ := Aside0.mk (blk_below (g := gb133) (o := .cells #[.int .u64 a0_0, .int .u64 a0_1, .slice A0_2 l0_2.length c0_2] 34 (0, 0)) (by (with_reducible repeat (first | refine blk_drewN ?_ _ | refine blk_drew ?_ | refine blk_alloc ?_ _)); exact BK133.out) hb); have n1_ := Aside0.mk (below_step (by repeat (first | (with_reducible first | exact HB.out | apply below_alloc | apply pw_below_drewN | apply below_drew1 | refine below_set ?_ GE133.out) | exact HB.out)) hb); clear BK133; clear HB; have BK133 := n0_; have HB := n1_; clear n0_ n1_; (try clear hb); (try clear hb2); (try clear hk); (try clear hi)))
    go_ret
    exact ⟨by first | rfl | (simp [errW_none, errW_some] <;> rfl) | (simp [*, errW_none, errW_some] <;> rfl), by repeat (first | (with_reducible first | exact HB.out | apply below_alloc | apply pw_below_drewN | apply below_drew1 | refine below_set ?_ GE133.out) | exact HB.out)⟩

end Go.Proofs.Ytbfhmcgiamnliaa.PAll
