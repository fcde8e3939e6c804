-- Written by a program of this session (wip/tools)
import Derived.Test.YtielnphmcaecdaaDoorQIMPAllx0
import Derived.Test.YtielnphmcaecdaaDoorQIMPAllx5
import Derived.Test.YtielnphmcaecdaaDoorQIMPAllx10
import Derived.Test.YtielnphmcaecdaaDoorQIMPAllx17
import Derived.Test.YtielnphmcaecdaaDoorQIMExtHashes
import Derived.Test.YtielnphmcaecdaaDoorQIMExtInc
import Derived.Test.YtielnphmcaecdaaDoorQIMExtSame
namespace Go.Proofs.YtielnphmcaecdaaDoor.PAll
open Go.RowKit Go.Proofs.YtielnphmcaecdaaDoorW.PrintWords Go.Proofs.YtielnphmcaecdaaDoorW.PrintLast Go.Proofs.YtielnphmcaecdaaDoorW.PrintMore
attribute [local go_sem] max2_int min2_int max_two min_two max_three min_three max_four min_four   -- for this text's walks alone
set_option linter.unusedVariables false
set_option linter.unusedSimpArgs false
theorem field53_0 (x0 x1 : Value) (W : World) : (Instr.field 53 (.agg #[x0, x1]) 0).run Tryd.prog W = .ok x0 W := by kernel_rfl
theorem field53_1 (x0 x1 : Value) (W : World) : (Instr.field 53 (.agg #[x0, x1]) 1).run Tryd.prog W = .ok x1 W := by kernel_rfl
mutual
def laws_FnInclusionMade.j0 : Nat → List (List Int) → Int → Int → Bool → Int → Int → Int → Int → Int → Int → Option (Bool)
  | 0, _, _, _, _, _, _, _, _, _, _ => none
  | k + 1, x1, x2, x7, x28, x681000, x681001, x681002, x681003, x681004, x681005 => if x28 = true then (some true) else ((impl_Inclusion.f k x2 x7).bind fun bt683 => (laws_FnInclusionMade.l0 k x1 x2 x7 bt683.2.2.2.2.2 ([] : List (List Int)) bt683.1 (bt683.1.length : Int) 0 x681000 x681001 x681002 x681003 x681004 x681005))
def laws_FnInclusionMade.l0 : Nat → List (List Int) → Int → Int → Bool → List (List Int) → List (S49) → Int → Int → Int → Int → Int → Int → Int → Int → Option (Bool)
  | 0, _, _, _, _, _, _, _, _, _, _, _, _, _, _ => none
  | k + 1, x1, x2, x7, x9, x10, x36, x37, x38, x681000, x681001, x681002, x681003, x681004, x681005 => if x38 < x37 then (if 0 ≤ x38 then (if x38 < (x36.length : Int) then (if ((rd_T49 x36 x38).f0) ≥ 64 then (none) else ((spec_Leaves.f ((rd_T49 x36 x38).f0) ((rd_T49 x36 x38).f1)).bind fun bt702 => ((spec_Leaves.f ((rd_T49 x36 x38).f0) ((rd_T49 x36 x38).f1)).bind fun bt704 => (if bt702.1 ≥ bt704.2 then (none) else ((spec_Leaves.f ((rd_T49 x36 x38).f0) ((rd_T49 x36 x38).f1)).bind fun bt706 => (if bt706.2 > x7 then (none) else ((spec_NodeHash.f k x681000 x681001 x681002 x681003 x681004 x681005 x1 ((rd_T49 x36 x38).f0) ((rd_T49 x36 x38).f1)).bind fun t708 => (if x10.length < 5864062014805 then (laws_FnInclusionMade.l0 k x1 x2 x7 x9 (x10 ++ [t708]) x36 x37 (wrap64 (x38 + 1)) x681000 x681001 x681002 x681003 x681004 x681005) else (none))))))))) else (none)) else (none)) else ((impl_InclusionHashes.f k x681000 x681001 x681002 x681003 x681004 x681005 x2 x7 x10).bind fun bt692 => (if x9 = true then (if bt692.2 = true then ((spec_Path.f k x681000 x681001 x681002 x681003 x681004 x681005 x1 x2).bind fun t696 => ((spec_Same.f k bt692.1 t696).bind fun t699 => (some t699))) else (none)) else (none)))
end
def laws_FnInclusionMade.f (k : Nat) (a0_0 : Int) (a0_1 : Int) (a0_2 : Int) (a0_3 : Int) (a0_4 : Int) (a0_5 : Int) (l1 : List (List Int)) (a2 : Int) : Option (Bool) := (laws_zzFits2.f k l1).bind fun t681 => (if t681 = true then ((laws_logSmall.f k l1).bind fun t682 => (if t682 = true then (laws_FnInclusionMade.j0 k l1 a2 (IntKind.u64.wrap ((l1.length : Int))) (decide (a2 ≥ (IntKind.u64.wrap ((l1.length : Int))))) a0_0 a0_1 a0_2 a0_3 a0_4 a0_5) else (laws_FnInclusionMade.j0 k l1 a2 (IntKind.u64.wrap ((l1.length : Int))) true a0_0 a0_1 a0_2 a0_3 a0_4 a0_5))) else (some true))
theorem laws_FnInclusionMade.mono_l : ∀ k, (∀ y0 y1 y2 y3 y4 y5 y6 y7 y8 y9, LeO (laws_FnInclusionMade.j0 k y0 y1 y2 y3 y4 y5 y6 y7 y8 y9) (laws_FnInclusionMade.j0 (k + 1) y0 y1 y2 y3 y4 y5 y6 y7 y8 y9)) ∧ (∀ y0 y1 y2 y3 y4 y5 y6 y7 y8 y9 y10 y11 y12 y13, LeO (laws_FnInclusionMade.l0 k y0 y1 y2 y3 y4 y5 y6 y7 y8 y9 y10 y11 y12 y13) (laws_FnInclusionMade.l0 (k + 1) y0 y1 y2 y3 y4 y5 y6 y7 y8 y9 y10 y11 y12 y13))
  | 0 => ⟨fun _ _ _ _ _ _ _ _ _ _ r h => by simp [laws_FnInclusionMade.j0] at h, fun _ _ _ _ _ _ _ _ _ _ _ _ _ _ r h => by simp [laws_FnInclusionMade.l0] at h⟩
  | k + 1 => by
    obtain ⟨ih0, ih1⟩ := laws_FnInclusionMade.mono_l k
    refine ⟨?_, ?_⟩
    · intro y0 y1 y2 y3 y4 y5 y6 y7 y8 y9
      unfold laws_FnInclusionMade.j0
      repeat' first
      | (with_reducible exact ih0 _ _ _ _ _ _ _ _ _ _)
      | (with_reducible exact ih1 _ _ _ _ _ _ _ _ _ _ _ _ _ _)
      | (with_reducible exact impl_Inclusion.mono _ _ _)
      | (with_reducible exact impl_InclusionHashes.mono _ _ _ _ _ _ _ _ _ _)
      | (with_reducible exact laws_logSmall.mono _ _)
      | (with_reducible exact laws_zzFits2.mono _ _)
      | (with_reducible exact spec_NodeHash.mono _ _ _ _ _ _ _ _ _ _)
      | (with_reducible exact spec_Path.mono _ _ _ _ _ _ _ _ _)
      | (with_reducible exact spec_Same.mono _ _ _)
      | (with_reducible exact LeO.refl _)
      | (with_reducible exact LeO.none _)
      | (with_reducible refine LeO.ite ?_ ?_)
      | (with_reducible refine LeO.bind ?_ (fun _ => ?_))
      | exact ih0 _ _ _ _ _ _ _ _ _ _
      | exact ih1 _ _ _ _ _ _ _ _ _ _ _ _ _ _
      | exact impl_Inclusion.mono _ _ _
      | exact impl_InclusionHashes.mono _ _ _ _ _ _ _ _ _ _
      | exact laws_logSmall.mono _ _
      | exact laws_zzFits2.mono _ _
      | exact spec_NodeHash.mono _ _ _ _ _ _ _ _ _ _
      | exact spec_Path.mono _ _ _ _ _ _ _ _ _
      | exact spec_Same.mono _ _ _
      | exact LeO.none _
      | refine LeO.ite ?_ ?_
      | refine LeO.bind ?_ (fun _ => ?_)
    · intro y0 y1 y2 y3 y4 y5 y6 y7 y8 y9 y10 y11 y12 y13
      unfold laws_FnInclusionMade.l0
      repeat' first
      | (with_reducible exact ih0 _ _ _ _ _ _ _ _ _ _)
      | (with_reducible exact ih1 _ _ _ _ _ _ _ _ _ _ _ _ _ _)
      | (with_reducible exact impl_Inclusion.mono _ _ _)
      | (with_reducible exact impl_InclusionHashes.mono _ _ _ _ _ _ _ _ _ _)
      | (with_reducible exact laws_logSmall.mono _ _)
      | (with_reducible exact laws_zzFits2.mono _ _)
      | (with_reducible exact spec_NodeHash.mono _ _ _ _ _ _ _ _ _ _)
      | (with_reducible exact spec_Path.mono _ _ _ _ _ _ _ _ _)
      | (with_reducible exact spec_Same.mono _ _ _)
      | (with_reducible exact LeO.refl _)
      | (with_reducible exact LeO.none _)
      | (with_reducible refine LeO.ite ?_ ?_)
      | (with_reducible refine LeO.bind ?_ (fun _ => ?_))
      | exact ih0 _ _ _ _ _ _ _ _ _ _
      | exact ih1 _ _ _ _ _ _ _ _ _ _ _ _ _ _
      | exact impl_Inclusion.mono _ _ _
      | exact impl_InclusionHashes.mono _ _ _ _ _ _ _ _ _ _
      | exact laws_logSmall.mono _ _
      | exact laws_zzFits2.mono _ _
      | exact spec_NodeHash.mono _ _ _ _ _ _ _ _ _ _
      | exact spec_Path.mono _ _ _ _ _ _ _ _ _
      | exact spec_Same.mono _ _ _
      | exact LeO.none _
      | refine LeO.ite ?_ ?_
      | refine LeO.bind ?_ (fun _ => ?_)
theorem laws_FnInclusionMade.mono : ∀ a0 a1 a2 a3 a4 a5 a6 a7 k, LeO (laws_FnInclusionMade.f k a0 a1 a2 a3 a4 a5 a6 a7) (laws_FnInclusionMade.f (k + 1) a0 a1 a2 a3 a4 a5 a6 a7) := by
  intro a0 a1 a2 a3 a4 a5 a6 a7 k
  obtain ⟨ih0, ih1⟩ := laws_FnInclusionMade.mono_l k
  unfold laws_FnInclusionMade.f
  repeat' first
      | (with_reducible exact ih0 _ _ _ _ _ _ _ _ _ _)
      | (with_reducible exact ih1 _ _ _ _ _ _ _ _ _ _ _ _ _ _)
      | (with_reducible exact impl_Inclusion.mono _ _ _)
      | (with_reducible exact impl_InclusionHashes.mono _ _ _ _ _ _ _ _ _ _)
      | (with_reducible exact laws_logSmall.mono _ _)
      | (with_reducible exact laws_zzFits2.mono _ _)
      | (with_reducible exact spec_NodeHash.mono _ _ _ _ _ _ _ _ _ _)
      | (with_reducible exact spec_Path.mono _ _ _ _ _ _ _ _ _)
      | (with_reducible exact spec_Same.mono _ _ _)
      | (with_reducible exact LeO.refl _)
      | (with_reducible exact LeO.none _)
      | (with_reducible refine LeO.ite ?_ ?_)
      | (with_reducible refine LeO.bind ?_ (fun _ => ?_))
      | exact ih0 _ _ _ _ _ _ _ _ _ _
      | exact ih1 _ _ _ _ _ _ _ _ _ _ _ _ _ _
      | exact impl_Inclusion.mono _ _ _
      | exact impl_InclusionHashes.mono _ _ _ _ _ _ _ _ _ _
      | exact laws_logSmall.mono _ _
      | exact laws_zzFits2.mono _ _
      | exact spec_NodeHash.mono _ _ _ _ _ _ _ _ _ _
      | exact spec_Path.mono _ _ _ _ _ _ _ _ _
      | exact spec_Same.mono _ _ _
      | exact LeO.none _
      | refine LeO.ite ?_ ?_
      | refine LeO.bind ?_ (fun _ => ?_)
def laws_FnInclusionMade.T11 : Bool × List (List Nat × List Nat) := (true, [([], []), ([0], [0]), ([1], [1]), ([2], [2]), ([3], [3]), ([4, 3, 3], [3, 4]), ([5, 3], [3, 5]), ([3], [3]), ([7, 5, 3], [3, 7]), ([8, 3], [3, 8]), ([6, 9, 3], [3, 6, 9]), ([3, 10], [3, 10]), ([11, 8], [11]), ([12], [12]), ([13, 12, 12], [12, 13]), ([14, 12], [12, 14]), ([12], [12]), ([15, 16, 12], [12, 15, 16]), ([12, 17], [12, 17])])
def laws_FnInclusionMade.B11 : List Nat := [0, 1, 3, 7, 15, 31, 63, 15, 191, 447, 1023, 2047, 4095, 8191, 16383, 32767, 8191, 131071, 262143]
theorem laws_FnInclusionMade.tab11 : rtab .any (opsOf Tryd.f7 11) = laws_FnInclusionMade.T11 := by kernel_rfl
theorem laws_FnInclusionMade.bits11 : waitsOk laws_FnInclusionMade.T11.2 laws_FnInclusionMade.B11 = true := by kernel_rfl
set_option maxHeartbeats 8000000 in
set_option maxRecDepth 100000 in
theorem laws_FnInclusionMade.calls (k : Nat) (a0_0 : Int) (a0_1 : Int) (a0_2 : Int) (a0_3 : Int) (a0_4 : Int) (a0_5 : Int) (A1 : Option Addr) (c1 : Nat) (l1 : List (List Int)) (a2 : Int) (r : Bool) (w : World) (hG : Glob w) (hr1 : Kd.C (Kd.slice 5 (Kd.int .u8)) w A1 l1.length l1) (hc1 : l1.length ≤ c1) (h : laws_FnInclusionMade.f k a0_0 a0_1 a0_2 a0_3 a0_4 a0_5 l1 a2 = some r) :
    Calls Tryd.prog 7 #[.agg #[.int .i64 a0_0, .int .i64 a0_1, .int .i64 a0_2, .int .u64 a0_3, .int .u64 a0_4, .int .u64 a0_5], .slice A1 l1.length c1, .int .u64 a2] w fun e w' => e = .returned (.bool r) ∧ Below w.heap.size w w' := by
  have hfld53_1 := field53_1
  have hfld53_0 := field53_0
  have hu24 := Tryd.underlying24
  have hu61 := Tryd.underlying61
  have hu49 := Tryd.underlying49
  have HR1 := Aside0.mk hr1
  have HC1 := Aside0.mk hc1
  clear hr1 hc1
  have HB := Aside0.mk (Below.refl w.heap.size w)
  have H : ((laws_zzFits2.f k l1).bind fun t681 => (if t681 = true then ((laws_logSmall.f k l1).bind fun t682 => (if t682 = true then (laws_FnInclusionMade.j0 k l1 a2 (IntKind.u64.wrap ((l1.length : Int))) (decide (a2 ≥ (IntKind.u64.wrap ((l1.length : Int))))) a0_0 a0_1 a0_2 a0_3 a0_4 a0_5) else (laws_FnInclusionMade.j0 k l1 a2 (IntKind.u64.wrap ((l1.length : Int))) true a0_0 a0_1 a0_2 a0_3 a0_4 a0_5))) else (some true))) = some r := h
  clear h
  replace H := Option.bind_eq_some_iff.mp H
  obtain ⟨t681, A40, H⟩ := H
  replace H : (if t681 = true then ((laws_logSmall.f k l1).bind fun t682 => (if t682 = true then (laws_FnInclusionMade.j0 k l1 a2 (IntKind.u64.wrap ((l1.length : Int))) (decide (a2 ≥ (IntKind.u64.wrap ((l1.length : Int))))) a0_0 a0_1 a0_2 a0_3 a0_4 a0_5) else (laws_FnInclusionMade.j0 k l1 a2 (IntKind.u64.wrap ((l1.length : Int))) true a0_0 a0_1 a0_2 a0_3 a0_4 a0_5))) else (some true)) = some r := H
  have A4 := Aside0.mk A40
  clear A40
  by_cases c5 : t681 = true
  · subst c5
    have H1 : ((laws_logSmall.f k l1).bind fun t682 => (if t682 = true then (laws_FnInclusionMade.j0 k l1 a2 (IntKind.u64.wrap ((l1.length : Int))) (decide (a2 ≥ (IntKind.u64.wrap ((l1.length : Int))))) a0_0 a0_1 a0_2 a0_3 a0_4 a0_5) else (laws_FnInclusionMade.j0 k l1 a2 (IntKind.u64.wrap ((l1.length : Int))) true a0_0 a0_1 a0_2 a0_3 a0_4 a0_5))) = some r := by rw [if_pos rfl] at H; exact H
    clear H
    have H := H1
    clear H1
    have HC6 := Aside0.mk H
    clear H
    go_enter Tryd.func7, Tryd.ntmps7
    go_upto_region 4 with (first | ((with_reducible refine gate_dst (N := 3) rfl ?_); refine box_event ?hg (N := 3) ?hd (cs := #[.int .i64 a0_0, .int .i64 a0_1, .int .i64 a0_2, .int .u64 a0_3, .int .u64 a0_4, .int .u64 a0_5]) (t := 24) ?hr ?_; (case hd => rfl); (case hg => rfl); (case hr => first | (go_simp; done) | (go_simp; rfl)); intro gb680 hg w7 hbox hb; have n0_ := Aside0.mk (below_step (by repeat (first | (with_reducible first | exact HB.out | apply below_alloc | apply pw_below_drewN | apply below_drew1) | exact HB.out)) hb); have n1_ := Aside0.mk (hbox); have n2_ := Aside0.mk ((by rw [hg]; exact (below_size (by repeat (first | (with_reducible first | exact HB.out | apply below_alloc | apply pw_below_drewN | apply below_drew1) | exact HB.out))) : w.heap.size ≤ gb680)); have n3_ := Aside0.mk ((by rw [hg]; exact (below_size (by repeat (first | (with_reducible first | exact HB.out | apply below_alloc | apply pw_below_drewN | apply below_drew1) | exact HB.out))) : w.heap.size ≤ gb680)); clear HB; have HB := n0_; have BK680 := n1_; have GW680 := n2_; have GE680 := n3_; clear n0_ n1_ n2_ n3_; clear hb hbox hg) | ((with_reducible refine gate_callee (f := 12) rfl ?_); refine goesL_ (some 16) rfl rfl Tryd.func12 (by kernel_rfl) rfl #[.slice A1 l1.length c1] rfl (by (try simp only [List.map_toArray, List.map_cons, List.map_nil]); first | done | rfl | (simp only [List.length_drop, List.length_take]; rfl)) ?_; (with_reducible refine (laws_zzFits2.calls k _ _ l1 true _ ?side1 ?side2 A4.out).mono ?_); (case side1 => repeat (first | exact (Kd.C_below HR1.out HB.out) | (with_reducible refine Kd.C_alloc ?_ _) | (with_reducible refine Kd.C_drewN ?_ _) | (with_reducible refine Kd.C_drew ?_))); (case side2 => exact HC1.out); rintro e w' ⟨rfl, ⟨nd, rfl⟩⟩; refine ⟨_, rfl, ?_⟩))
    (try simp only [Act.put, List.setIfInBounds_toArray, List.set_cons_zero, List.set_cons_succ])
    go_cut [28] (fun v28 wc => ∃ (kq : Nat) (x28_5 : Bool), v28 = .bool x28_5 ∧ Aside0 (laws_FnInclusionMade.j0 kq l1 a2 (IntKind.u64.wrap ((l1.length : Int))) x28_5 a0_0 a0_1 a0_2 a0_3 a0_4 a0_5 = some r) ∧ Aside0 (kq ≤ k) ∧ Aside0 (wc.heap[gb680]? = some (.cells #[.int .i64 a0_0, .int .i64 a0_1, .int .i64 a0_2, .int .u64 a0_3, .int .u64 a0_4, .int .u64 a0_5] 24 (0, 0))) ∧ Aside0 (Below w.heap.size w wc))
    case first =>
      have H := HC6.out
      clear HC6
      replace H := Option.bind_eq_some_iff.mp H
      obtain ⟨t682, A80, H⟩ := H
      replace H : (if t682 = true then (laws_FnInclusionMade.j0 k l1 a2 (IntKind.u64.wrap ((l1.length : Int))) (decide (a2 ≥ (IntKind.u64.wrap ((l1.length : Int))))) a0_0 a0_1 a0_2 a0_3 a0_4 a0_5) else (laws_FnInclusionMade.j0 k l1 a2 (IntKind.u64.wrap ((l1.length : Int))) true a0_0 a0_1 a0_2 a0_3 a0_4 a0_5)) = some r := H
      have A8 := Aside0.mk A80
      clear A80
      by_cases c9 : t682 = true
      · subst c9
        have H1 : (laws_FnInclusionMade.j0 k l1 a2 (IntKind.u64.wrap ((l1.length : Int))) (decide (a2 ≥ (IntKind.u64.wrap ((l1.length : Int))))) a0_0 a0_1 a0_2 a0_3 a0_4 a0_5) = some r := by rw [if_pos rfl] at H; exact H
        clear H
        have H := H1
        clear H1
        have H' := Aside0.mk H
        clear H
        go_wp2_with (first | ((with_reducible refine gate_callee (f := 13) rfl ?_); refine goesL_ (some 22) rfl rfl Tryd.func13 (by kernel_rfl) rfl #[.slice A1 l1.length c1] rfl (by (try simp only [List.map_toArray, List.map_cons, List.map_nil]); first | done | rfl | (simp only [List.length_drop, List.length_take]; rfl)) ?_; (with_reducible refine (laws_logSmall.calls k _ _ l1 true _ ?side1 ?side2 A8.out).mono ?_); (case side1 => repeat (first | exact (Kd.C_below HR1.out HB.out) | (with_reducible refine Kd.C_alloc ?_ _) | (with_reducible refine Kd.C_drewN ?_ _) | (with_reducible refine Kd.C_drew ?_))); (case side2 => exact HC1.out); rintro e w' ⟨rfl, ⟨nd, rfl⟩⟩; refine ⟨_, rfl, ?_⟩))
        go_meet
        case rel => exact ⟨_, (decide (a2 ≥ (IntKind.u64.wrap ((l1.length : Int))))), (by first | rfl | (simp; done) | (simp [*]; done)), H', ⟨by first | omega | exact Nat.le_refl _⟩, ⟨by (with_reducible repeat (first | refine blk_drewN ?_ _ | refine blk_drew ?_ | refine blk_alloc ?_ _)); exact BK680.out⟩, ⟨by repeat (first | (with_reducible first | exact HB.out | apply below_alloc | apply pw_below_drewN | apply below_drew1 | refine below_set ?_ GE680.out) | exact HB.out)⟩⟩
      · replace c9 := Bool.eq_false_iff.mpr c9
        subst c9
        have H1 : (laws_FnInclusionMade.j0 k l1 a2 (IntKind.u64.wrap ((l1.length : Int))) true a0_0 a0_1 a0_2 a0_3 a0_4 a0_5) = some r := by rw [if_neg (show ¬ (false = true) by decide)] at H; exact H
        clear H
        have H := H1
        clear H1
        have H' := Aside0.mk H
        clear H
        go_wp2_with (first | ((with_reducible refine gate_callee (f := 13) rfl ?_); refine goesL_ (some 22) rfl rfl Tryd.func13 (by kernel_rfl) rfl #[.slice A1 l1.length c1] rfl (by (try simp only [List.map_toArray, List.map_cons, List.map_nil]); first | done | rfl | (simp only [List.length_drop, List.length_take]; rfl)) ?_; (with_reducible refine (laws_logSmall.calls k _ _ l1 false _ ?side1 ?side2 A8.out).mono ?_); (case side1 => repeat (first | exact (Kd.C_below HR1.out HB.out) | (with_reducible refine Kd.C_alloc ?_ _) | (with_reducible refine Kd.C_drewN ?_ _) | (with_reducible refine Kd.C_drew ?_))); (case side2 => exact HC1.out); rintro e w' ⟨rfl, ⟨nd, rfl⟩⟩; refine ⟨_, rfl, ?_⟩))
        go_meet
        case rel => exact ⟨_, (true), (by first | rfl | (simp; done) | (simp [*]; done)), H', ⟨by first | omega | exact Nat.le_refl _⟩, ⟨by (with_reducible repeat (first | refine blk_drewN ?_ _ | refine blk_drew ?_ | refine blk_alloc ?_ _)); exact BK680.out⟩, ⟨by repeat (first | (with_reducible first | exact HB.out | apply below_alloc | apply pw_below_drewN | apply below_drew1 | refine below_set ?_ GE680.out) | exact HB.out)⟩⟩
    case rest =>
      clear HC6
      try clear c1
      try clear p2
      try clear c5
      try clear c7
      try clear c9
      obtain ⟨kq, x28_5, rfl, HA, HJ5, BK680, HB⟩ := hcut
      cases kq with
      | zero => exact absurd HA.out (by simp [laws_FnInclusionMade.j0])
      | succ kj5 =>
        have H := HA.out
        clear HA
        simp only [laws_FnInclusionMade.j0] at H
        by_cases c10 : x28_5 = true
        · subst c10
          have H1 : (some true) = some r := by rw [if_pos rfl] at H; exact H
          clear H
          have H := H1
          clear H1
          obtain rfl := Option.some.inj H
          go_wp2
          go_ret
          exact ⟨by first | rfl | (simp [errW_none, errW_some] <;> rfl) | (simp [*, errW_none, errW_some] <;> rfl), by repeat (first | (with_reducible first | exact HB.out | apply below_alloc | apply pw_below_drewN | apply below_drew1 | refine below_set ?_ GE680.out) | exact HB.out)⟩
        · replace c10 := Bool.eq_false_iff.mpr c10
          subst c10
          have H1 : ((impl_Inclusion.f kj5 a2 (IntKind.u64.wrap ((l1.length : Int)))).bind fun bt683 => (laws_FnInclusionMade.l0 kj5 l1 a2 (IntKind.u64.wrap ((l1.length : Int))) bt683.2.2.2.2.2 ([] : List (List Int)) bt683.1 (bt683.1.length : Int) 0 a0_0 a0_1 a0_2 a0_3 a0_4 a0_5)) = some r := by rw [if_neg (show ¬ (false = true) by decide)] at H; exact H
          clear H
          have H := H1
          clear H1
          replace H := Option.bind_eq_some_iff.mp H
          obtain ⟨⟨t683, t686, t687, t688, t689, t690⟩, A110, H⟩ := H
          replace H : (laws_FnInclusionMade.l0 kj5 l1 a2 (IntKind.u64.wrap ((l1.length : Int))) t690 ([] : List (List Int)) t683 (t683.length : Int) 0 a0_0 a0_1 a0_2 a0_3 a0_4 a0_5) = some r := H
          have A11 := Aside0.mk A110
          clear A110
          have H' := Aside0.mk H
          clear H
          go_wp2_with (first | ((with_reducible refine gate_callee (f := 31) rfl ?_); refine goesL_ (some 32) rfl rfl Tryd.func31 (by kernel_rfl) rfl #[.int .u64 a2, .int .u64 (IntKind.u64.wrap ((l1.length : Int)))] rfl (by (try simp only [List.map_toArray, List.map_cons, List.map_nil]); first | done | rfl | (simp only [List.length_drop, List.length_take]; rfl)) ?_; (with_reducible refine (impl_Inclusion.calls kj5 a2 (IntKind.u64.wrap ((l1.length : Int))) t683 t686 t687 t688 t689 t690 _ ?side1 A11.out).mono ?_); (case side1 => exact Glob.below hG (by repeat (first | (with_reducible first | exact HB.out | apply below_alloc | apply pw_below_drewN | apply below_drew1 | refine below_set ?_ GE680.out) | exact HB.out))); rintro e w12 ⟨v684, rfl, ho0, hb⟩; refine ⟨_, rfl, ?_⟩; have n0_ := Aside0.mk (Kd.R_lower ho0 (below_size (by repeat (first | (with_reducible first | exact HB.out | apply below_alloc | apply pw_below_drewN | apply below_drew1 | refine below_set ?_ GE680.out) | exact HB.out)))); have n1_ := Aside0.mk (blk_below (g := gb680) (o := .cells #[.int .i64 a0_0, .int .i64 a0_1, .int .i64 a0_2, .int .u64 a0_3, .int .u64 a0_4, .int .u64 a0_5] 24 (0, 0)) (by (with_reducible repeat (first | refine blk_drewN ?_ _ | refine blk_drew ?_ | refine blk_alloc ?_ _)); exact BK680.out) hb); have n2_ := Aside0.mk (below_step (by repeat (first | (with_reducible first | exact HB.out | apply below_alloc | apply pw_below_drewN | apply below_drew1 | refine below_set ?_ GE680.out) | exact HB.out)) hb); clear BK680; clear HB; have HO685 := n0_; have BK680 := n1_; have HB := n2_; clear n0_ n1_ n2_; (try clear hb); (try clear hb2); (try clear hk); (try clear hi); (try clear ho0)) | ((with_reducible refine gate_dst (N := 8) rfl ?_); refine box_event ?hg (N := 8) ?hd (cs := #[.slice none 0 0, .int .u64 0, .int .u64 0, .int .i64 0, .int .i64 0]) (t := 61) ?hr ?_; (case hd => rfl); (case hg => rfl); (case hr => first | (go_simp; done) | (go_simp; rfl)); intro gb691 hg w13 hbox hb; have n0_ := Aside0.mk (Kd.R_below (by (with_reducible repeat (first | apply Kd.R_alloc | apply Kd.R_drewN | apply Kd.R_drew)); exact HO685.out) hb); have n1_ := Aside0.mk (blk_below (g := gb680) (o := .cells #[.int .i64 a0_0, .int .i64 a0_1, .int .i64 a0_2, .int .u64 a0_3, .int .u64 a0_4, .int .u64 a0_5] 24 (0, 0)) (by (with_reducible repeat (first | refine blk_drewN ?_ _ | refine blk_drew ?_ | refine blk_alloc ?_ _)); exact BK680.out) hb); have n2_ := Aside0.mk (below_step (by repeat (first | (with_reducible first | exact HB.out | apply below_alloc | apply pw_below_drewN | apply below_drew1 | refine below_set ?_ GE680.out) | exact HB.out)) hb); have n3_ := Aside0.mk (hbox); have n4_ := Aside0.mk ((by rw [hg]; exact (below_size (by repeat (first | (with_reducible first | exact HB.out | apply below_alloc | apply pw_below_drewN | apply below_drew1 | refine below_set ?_ GE680.out) | exact HB.out))) : w.heap.size ≤ gb691)); have n5_ := Aside0.mk ((by rw [hg]; exact (below_size (by repeat (first | (with_reducible first | exact HB.out | apply below_alloc | apply pw_below_drewN | apply below_drew1 | refine below_set ?_ GE680.out) | exact HB.out))) : w.heap.size ≤ gb691)); have n6_ := Aside0.mk ((by rw [hg]; exact Nat.ne_of_lt (blk_lt (g := gb680) (o := .cells #[.int .i64 a0_0, .int .i64 a0_1, .int .i64 a0_2, .int .u64 a0_3, .int .u64 a0_4, .int .u64 a0_5] 24 (0, 0)) (by (with_reducible repeat (first | refine blk_drewN ?_ _ | refine blk_drew ?_ | refine blk_alloc ?_ _)); exact BK680.out)) : gb680 ≠ gb691)); have n7_ := Aside0.mk ((by rw [hg]; exact Nat.ne_of_gt (blk_lt (g := gb680) (o := .cells #[.int .i64 a0_0, .int .i64 a0_1, .int .i64 a0_2, .int .u64 a0_3, .int .u64 a0_4, .int .u64 a0_5] 24 (0, 0)) (by (with_reducible repeat (first | refine blk_drewN ?_ _ | refine blk_drew ?_ | refine blk_alloc ?_ _)); exact BK680.out)) : gb691 ≠ gb680)); clear HO685; clear BK680; clear HB; have HO685 := n0_; have BK680 := n1_; have HB := n2_; have BK691 := n3_; have GW691 := n4_; have GE691 := n5_; have NB680_691 := n6_; have NB691_680 := n7_; clear n0_ n1_ n2_ n3_ n4_ n5_ n6_ n7_; clear hb hbox hg; obtain ⟨Ao14, co14, eo14⟩ := Kd.R_slice HO685.out; subst eo14; have hnb15 := NB691_680.out; have hnc15 := NB680_691.out; have hcz16_0 : w13.cell? ⟨gb691, 0, none⟩ = some (.slice none 0 0) := (blk_cell BK691.out 0).trans rfl; have hcz16_1 : w13.cell? ⟨gb691, 1, none⟩ = some (.int .u64 0) := (blk_cell BK691.out 1).trans rfl; have hcz16_2 : w13.cell? ⟨gb691, 2, none⟩ = some (.int .u64 0) := (blk_cell BK691.out 2).trans rfl; have hcz16_3 : w13.cell? ⟨gb691, 3, none⟩ = some (.int .i64 0) := (blk_cell BK691.out 3).trans rfl; have hcz16_4 : w13.cell? ⟨gb691, 4, none⟩ = some (.int .i64 0) := (blk_cell BK691.out 4).trans rfl; have hfz16_0 := blk_frozen BK691.out 0; have hfz16_1 := blk_frozen BK691.out 1; have hfz16_2 := blk_frozen BK691.out 2; have hfz16_3 := blk_frozen BK691.out 3; have hfz16_4 := blk_frozen BK691.out 4))
          try simp only [Act.put, List.setIfInBounds_toArray, List.set_cons_zero, List.set_cons_succ]
          go_loopg [10, 38] kj5 (fun kq v10 v38 w' => ∃ (x10_2 : List (List Int)) (x38_2 : Int), v38 = .int .i64 x38_2 ∧ Aside0 (laws_FnInclusionMade.l0 kq l1 a2 (IntKind.u64.wrap ((l1.length : Int))) t690 x10_2 t683 (t683.length : Int) x38_2 a0_0 a0_1 a0_2 a0_3 a0_4 a0_5 = some r) ∧ Aside0 (kq ≤ kj5) ∧ Aside0 (Kd.N (Kd.slice 5 (Kd.int .u8)) 27 w' w.heap.size (fun k_ => some k_ ≠ ((.slice Ao14 t683.length co14) : Value).ownBlock ∧ some k_ ≠ ((.slice Ao14 t683.length co14) : Value).ownBlock ∧ k_ ≠ gb680 ∧ k_ ≠ gb691) v10 x10_2) ∧ Aside0 (Kd.R k49 49 w' w.heap.size (fun _ => True) (.slice Ao14 t683.length co14) t683) ∧ Aside0 (Kd.R k49 49 w' w.heap.size (fun _ => True) (.slice Ao14 t683.length co14) t683) ∧ Aside0 (w'.heap[gb680]? = some (.cells #[.int .i64 a0_0, .int .i64 a0_1, .int .i64 a0_2, .int .u64 a0_3, .int .u64 a0_4, .int .u64 a0_5] 24 (0, 0))) ∧ Aside0 (w'.heap[gb691]? = some (.cells #[(.slice Ao14 t683.length co14), .int .u64 t686, .int .u64 t687, .int .i64 t688, .int .i64 t689] 61 (0, 0))) ∧ Aside0 (Below w.heap.size w w'))
          case atStart => exact ⟨(([] : List (List Int))), (0), (by first | rfl | (simp; done) | (simp [*]; done)), H', ⟨Nat.le_refl _⟩, ⟨by first | exact Kd.S_nil _ _ _ _ _ | exact Kd.N_nil _ _ _ _ _ | exact Kd.V_nil _ _ _ _ _ | exact Kd.Q_nil _ _ _ _ _ | exact Kd.R_nil _ _ _ _ _⟩, ⟨by (with_reducible repeat (first | apply Kd.R_alloc | apply Kd.R_drewN | apply Kd.R_drew)); exact Kd.R_mono (Kd.R_far (p := ⟨gb691, 4, none⟩) (Kd.R_far (p := ⟨gb691, 3, none⟩) (Kd.R_far (p := ⟨gb691, 2, none⟩) (Kd.R_far (p := ⟨gb691, 1, none⟩) (Kd.R_far (p := ⟨gb691, 0, none⟩) (Kd.R_types HO685.out BK691.out (by decide)) (fun _ hk => hk.2) (.slice Ao14 t683.length co14)) (fun _ hk => hk.2) (.int .u64 t686)) (fun _ hk => hk.2) (.int .u64 t687)) (fun _ hk => hk.2) (.int .i64 t688)) (fun _ hk => hk.2) (.int .i64 t689)) (fun _ hk => trivial)⟩, ⟨by (with_reducible repeat (first | apply Kd.R_alloc | apply Kd.R_drewN | apply Kd.R_drew)); exact Kd.R_mono (Kd.R_far (p := ⟨gb691, 4, none⟩) (Kd.R_far (p := ⟨gb691, 3, none⟩) (Kd.R_far (p := ⟨gb691, 2, none⟩) (Kd.R_far (p := ⟨gb691, 1, none⟩) (Kd.R_far (p := ⟨gb691, 0, none⟩) (Kd.R_types HO685.out BK691.out (by decide)) (fun _ hk => hk.2) (.slice Ao14 t683.length co14)) (fun _ hk => hk.2) (.int .u64 t686)) (fun _ hk => hk.2) (.int .u64 t687)) (fun _ hk => hk.2) (.int .i64 t688)) (fun _ hk => hk.2) (.int .i64 t689)) (fun _ hk => trivial)⟩, ⟨by (with_reducible repeat (first | refine blk_drewN ?_ _ | refine blk_drew ?_ | refine blk_alloc ?_ _)); refine blk_far ?_ NB680_691.out _; (with_reducible repeat (first | refine blk_drewN ?_ _ | refine blk_drew ?_ | refine blk_alloc ?_ _)); refine blk_far ?_ NB680_691.out _; (with_reducible repeat (first | refine blk_drewN ?_ _ | refine blk_drew ?_ | refine blk_alloc ?_ _)); refine blk_far ?_ NB680_691.out _; (with_reducible repeat (first | refine blk_drewN ?_ _ | refine blk_drew ?_ | refine blk_alloc ?_ _)); refine blk_far ?_ NB680_691.out _; (with_reducible repeat (first | refine blk_drewN ?_ _ | refine blk_drew ?_ | refine blk_alloc ?_ _)); refine blk_far ?_ NB680_691.out _; (with_reducible repeat (first | refine blk_drewN ?_ _ | refine blk_drew ?_ | refine blk_alloc ?_ _)); exact BK680.out⟩, ⟨by (with_reducible repeat (first | refine blk_drewN ?_ _ | refine blk_drew ?_ | refine blk_alloc ?_ _)); refine blk_put (cs := #[.slice Ao14 t683.length co14, .int .u64 t686, .int .u64 t687, .int .i64 t688, .int .i64 0]) ?_ 4 _ rfl; (with_reducible repeat (first | refine blk_drewN ?_ _ | refine blk_drew ?_ | refine blk_alloc ?_ _)); refine blk_put (cs := #[.slice Ao14 t683.length co14, .int .u64 t686, .int .u64 t687, .int .i64 0, .int .i64 0]) ?_ 3 _ rfl; (with_reducible repeat (first | refine blk_drewN ?_ _ | refine blk_drew ?_ | refine blk_alloc ?_ _)); refine blk_put (cs := #[.slice Ao14 t683.length co14, .int .u64 t686, .int .u64 0, .int .i64 0, .int .i64 0]) ?_ 2 _ rfl; (with_reducible repeat (first | refine blk_drewN ?_ _ | refine blk_drew ?_ | refine blk_alloc ?_ _)); refine blk_put (cs := #[.slice Ao14 t683.length co14, .int .u64 0, .int .u64 0, .int .i64 0, .int .i64 0]) ?_ 1 _ rfl; (with_reducible repeat (first | refine blk_drewN ?_ _ | refine blk_drew ?_ | refine blk_alloc ?_ _)); refine blk_put (cs := #[.slice none 0 0, .int .u64 0, .int .u64 0, .int .i64 0, .int .i64 0]) ?_ 0 _ rfl; (with_reducible repeat (first | refine blk_drewN ?_ _ | refine blk_drew ?_ | refine blk_alloc ?_ _)); exact BK691.out⟩, ⟨by repeat (first | (with_reducible first | exact HB.out | apply below_alloc | apply pw_below_drewN | apply below_drew1 | refine below_set ?_ GE680.out | refine below_set ?_ GE691.out) | exact HB.out)⟩⟩
          case round =>
            clear H'
            try clear c1
            try clear p2
            try clear c3
            try clear c5
            try clear c7
            try clear c9
            try clear c10
            try clear c12
            try clear c13
            try clear c15
            try clear hcz16_0
            try clear hcz16_1
            try clear hcz16_2
            try clear hcz16_3
            try clear hcz16_4
            try clear hfz16_0
            try clear hfz16_1
            try clear hfz16_2
            try clear hfz16_3
            try clear hfz16_4
            try clear p2
            obtain ⟨x10_2, x38_2, rfl, HA, HK2, HO_10, HO_36, HO_692000, BK680, BK691, HB⟩ := hrel
            cases gk with
            | zero => exact absurd HA.out (by simp [laws_FnInclusionMade.l0])
            | succ k2 =>
              have H := HA.out
              clear HA
              simp only [laws_FnInclusionMade.l0] at H
              by_cases c17 : x38_2 < (t683.length : Int)
              · rw [if_pos c17] at H
                have c17b0 : decide (x38_2 < (t683.length : Int)) = true := decide_eq_true c17
                clear c17
                by_cases c18 : 0 ≤ x38_2
                · rw [if_pos c18] at H
                  have c18b0 : decide (0 ≤ x38_2) = true := decide_eq_true c18
                  clear c18
                  by_cases c19 : x38_2 < (t683.length : Int)
                  · rw [if_pos c19] at H
                    have c19b0 : decide (x38_2 < (t683.length : Int)) = true := decide_eq_true c19
                    clear c19
                    by_cases c20 : ((rd_T49 t683 x38_2).f0) ≥ 64
                    · rw [if_pos c20] at H
                      exact absurd H (by simp)
                    · rw [if_neg c20] at H
                      have c20b0 : decide (64 ≤ ((rd_T49 t683 x38_2).f0)) = false := decide_eq_false c20
                      clear c20
                      replace H := Option.bind_eq_some_iff.mp H
                      obtain ⟨⟨t702, t703⟩, A210, H⟩ := H
                      replace H : ((spec_Leaves.f ((rd_T49 t683 x38_2).f0) ((rd_T49 t683 x38_2).f1)).bind fun bt704 => (if t702 ≥ bt704.2 then (none) else ((spec_Leaves.f ((rd_T49 t683 x38_2).f0) ((rd_T49 t683 x38_2).f1)).bind fun bt706 => (if bt706.2 > (IntKind.u64.wrap ((l1.length : Int))) then (none) else ((spec_NodeHash.f k2 a0_0 a0_1 a0_2 a0_3 a0_4 a0_5 l1 ((rd_T49 t683 x38_2).f0) ((rd_T49 t683 x38_2).f1)).bind fun t708 => (if x10_2.length < 5864062014805 then (laws_FnInclusionMade.l0 k2 l1 a2 (IntKind.u64.wrap ((l1.length : Int))) t690 (x10_2 ++ [t708]) t683 (t683.length : Int) (wrap64 (x38_2 + 1)) a0_0 a0_1 a0_2 a0_3 a0_4 a0_5) else (none))))))) = some r := H
                      have A21 := Aside0.mk A210
                      clear A210
                      replace H := Option.bind_eq_some_iff.mp H
                      obtain ⟨⟨t704, t705⟩, A220, H⟩ := H
                      replace H : (if t702 ≥ t705 then (none) else ((spec_Leaves.f ((rd_T49 t683 x38_2).f0) ((rd_T49 t683 x38_2).f1)).bind fun bt706 => (if bt706.2 > (IntKind.u64.wrap ((l1.length : Int))) then (none) else ((spec_NodeHash.f k2 a0_0 a0_1 a0_2 a0_3 a0_4 a0_5 l1 ((rd_T49 t683 x38_2).f0) ((rd_T49 t683 x38_2).f1)).bind fun t708 => (if x10_2.length < 5864062014805 then (laws_FnInclusionMade.l0 k2 l1 a2 (IntKind.u64.wrap ((l1.length : Int))) t690 (x10_2 ++ [t708]) t683 (t683.length : Int) (wrap64 (x38_2 + 1)) a0_0 a0_1 a0_2 a0_3 a0_4 a0_5) else (none)))))) = some r := H
                      have A22 := Aside0.mk A220
                      clear A220
                      by_cases c23 : t702 ≥ t705
                      · rw [if_pos c23] at H
                        exact absurd H (by simp)
                      · rw [if_neg c23] at H
                        have c23b0 : decide (t705 ≤ t702) = false := decide_eq_false c23
                        clear c23
                        replace H := Option.bind_eq_some_iff.mp H
                        obtain ⟨⟨t706, t707⟩, A240, H⟩ := H
                        replace H : (if t707 > (IntKind.u64.wrap ((l1.length : Int))) then (none) else ((spec_NodeHash.f k2 a0_0 a0_1 a0_2 a0_3 a0_4 a0_5 l1 ((rd_T49 t683 x38_2).f0) ((rd_T49 t683 x38_2).f1)).bind fun t708 => (if x10_2.length < 5864062014805 then (laws_FnInclusionMade.l0 k2 l1 a2 (IntKind.u64.wrap ((l1.length : Int))) t690 (x10_2 ++ [t708]) t683 (t683.length : Int) (wrap64 (x38_2 + 1)) a0_0 a0_1 a0_2 a0_3 a0_4 a0_5) else (none)))) = some r := H
                        have A24 := Aside0.mk A240
                        clear A240
                        by_cases c25 : t707 > (IntKind.u64.wrap ((l1.length : Int)))
                        · rw [if_pos c25] at H
                          exact absurd H (by simp)
                        · rw [if_neg c25] at H
                          have c25b0 : decide ((IntKind.u64.wrap ((l1.length : Int))) < t707) = false := decide_eq_false c25
                          clear c25
                          replace H := Option.bind_eq_some_iff.mp H
                          obtain ⟨t708, A260, H⟩ := H
                          replace H : (if x10_2.length < 5864062014805 then (laws_FnInclusionMade.l0 k2 l1 a2 (IntKind.u64.wrap ((l1.length : Int))) t690 (x10_2 ++ [t708]) t683 (t683.length : Int) (wrap64 (x38_2 + 1)) a0_0 a0_1 a0_2 a0_3 a0_4 a0_5) else (none)) = some r := H
                          have A26 := Aside0.mk A260
                          clear A260
                          by_cases c27 : x10_2.length < 5864062014805
                          · rw [if_pos c27] at H
                            have LMc27 := Aside0.mk c27
                            clear c27
                            obtain ⟨y711, hy711⟩ : ∃ y_ : List (List Int), y_ = (x10_2 ++ [t708]) := ⟨_, rfl⟩
                            replace H : (laws_FnInclusionMade.l0 k2 l1 a2 (IntKind.u64.wrap ((l1.length : Int))) t690 y711 t683 (t683.length : Int) (wrap64 (x38_2 + 1)) a0_0 a0_1 a0_2 a0_3 a0_4 a0_5) = some r := by first | (rw [hy711]; with_reducible exact H) | (have H2_ := (Option.bind_some _ _).symm.trans H; rw [hy711]; with_reducible exact H2_) | (have H2_ := (Option.bind_some _ _).symm.trans H; with_reducible exact H2_) | with_reducible exact H | (rw [hy711]; exact H) | exact H
                            have Ny711 := Aside0.mk hy711
                            clear hy711
                            have H' := Aside0.mk H
                            clear H
                            have p700 : 0 ≤ (x38_2 : Int) := of_decide_eq_true (by first | (with_reducible assumption) | assumption)
                            have q700 : x38_2 < (t683.length : Int) := of_decide_eq_true (by first | (with_reducible assumption) | assumption)
                            obtain ⟨ad700, e700, hx700_0, hx700_1⟩ := at_T49 (Kd.R_reads' HO_36.out).2.2 x38_2 p700 q700
                            cases e700
                            replace p700 := eq_true p700
                            replace q700 := eq_true q700
                            try go_wp2_with (first | ((with_reducible refine gate_dst (N := 12) rfl ?_); refine box_event ?hg (N := 12) ?hd (cs := #[.int .u64 0, .int .u64 0]) (t := 49) ?hr ?_; (case hd => rfl); (case hg => rfl); (case hr => first | (go_simp; done) | (go_simp; rfl)); intro gb701 hg w28 hbox hb; have n0_ := Aside0.mk (Kd.N_below (Kd.N_elderB (by (with_reducible repeat (first | apply Kd.N_alloc | apply Kd.N_drewN | apply Kd.N_drew)); exact HO_10.out) gb701 (Nat.le_of_eq hg.symm)) hb); have n1_ := Aside0.mk (Kd.R_below (Kd.R_elderB (by (with_reducible repeat (first | apply Kd.R_alloc | apply Kd.R_drewN | apply Kd.R_drew)); exact HO_36.out) gb701 (Nat.le_of_eq hg.symm)) hb); have n2_ := Aside0.mk (Kd.R_below (Kd.R_elderB (by (with_reducible repeat (first | apply Kd.R_alloc | apply Kd.R_drewN | apply Kd.R_drew)); exact HO_692000.out) gb701 (Nat.le_of_eq hg.symm)) hb); have n3_ := Aside0.mk (blk_below (g := gb680) (o := .cells #[.int .i64 a0_0, .int .i64 a0_1, .int .i64 a0_2, .int .u64 a0_3, .int .u64 a0_4, .int .u64 a0_5] 24 (0, 0)) (by (with_reducible repeat (first | refine blk_drewN ?_ _ | refine blk_drew ?_ | refine blk_alloc ?_ _)); exact BK680.out) hb); have n4_ := Aside0.mk (blk_below (g := gb691) (o := .cells #[.slice (some ad700) t683.length co14, .int .u64 t686, .int .u64 t687, .int .i64 t688, .int .i64 t689] 61 (0, 0)) (by (with_reducible repeat (first | refine blk_drewN ?_ _ | refine blk_drew ?_ | refine blk_alloc ?_ _)); exact BK691.out) hb); have n5_ := Aside0.mk (below_step (by repeat (first | (with_reducible first | exact HB.out | apply below_alloc | apply pw_below_drewN | apply below_drew1 | refine below_set ?_ GE680.out | refine below_set ?_ GE691.out) | exact HB.out)) hb); have n6_ := Aside0.mk (hbox); have n7_ := Aside0.mk ((by rw [hg]; exact (below_size (by repeat (first | (with_reducible first | exact HB.out | apply below_alloc | apply pw_below_drewN | apply below_drew1 | refine below_set ?_ GE680.out | refine below_set ?_ GE691.out) | exact HB.out))) : w.heap.size ≤ gb701)); have n8_ := Aside0.mk ((by rw [hg]; exact (below_size (by repeat (first | (with_reducible first | exact HB.out | apply below_alloc | apply pw_below_drewN | apply below_drew1 | refine below_set ?_ GE680.out | refine below_set ?_ GE691.out) | exact HB.out))) : w.heap.size ≤ gb701)); have n9_ := Aside0.mk ((by rw [hg]; exact Nat.ne_of_lt (blk_lt (g := gb680) (o := .cells #[.int .i64 a0_0, .int .i64 a0_1, .int .i64 a0_2, .int .u64 a0_3, .int .u64 a0_4, .int .u64 a0_5] 24 (0, 0)) (by (with_reducible repeat (first | refine blk_drewN ?_ _ | refine blk_drew ?_ | refine blk_alloc ?_ _)); exact BK680.out)) : gb680 ≠ gb701)); have n10_ := Aside0.mk ((by rw [hg]; exact Nat.ne_of_gt (blk_lt (g := gb680) (o := .cells #[.int .i64 a0_0, .int .i64 a0_1, .int .i64 a0_2, .int .u64 a0_3, .int .u64 a0_4, .int .u64 a0_5] 24 (0, 0)) (by (with_reducible repeat (first | refine blk_drewN ?_ _ | refine blk_drew ?_ | refine blk_alloc ?_ _)); exact BK680.out)) : gb701 ≠ gb680)); have n11_ := Aside0.mk ((by rw [hg]; exact Nat.ne_of_lt (blk_lt (g := gb691) (o := .cells #[.slice (some ad700) t683.length co14, .int .u64 t686, .int .u64 t687, .int .i64 t688, .int .i64 t689] 61 (0, 0)) (by (with_reducible repeat (first | refine blk_drewN ?_ _ | refine blk_drew ?_ | refine blk_alloc ?_ _)); exact BK691.out)) : gb691 ≠ gb701)); have n12_ := Aside0.mk ((by rw [hg]; exact Nat.ne_of_gt (blk_lt (g := gb691) (o := .cells #[.slice (some ad700) t683.length co14, .int .u64 t686, .int .u64 t687, .int .i64 t688, .int .i64 t689] 61 (0, 0)) (by (with_reducible repeat (first | refine blk_drewN ?_ _ | refine blk_drew ?_ | refine blk_alloc ?_ _)); exact BK691.out)) : gb701 ≠ gb691)); clear HO_10; clear HO_36; clear HO_692000; clear BK680; clear BK691; clear HB; have HO_10 := n0_; have HO_36 := n1_; have HO_692000 := n2_; have BK680 := n3_; have BK691 := n4_; have HB := n5_; have BK701 := n6_; have GW701 := n7_; have GE701 := n8_; have NB680_701 := n9_; have NB701_680 := n10_; have NB691_701 := n11_; have NB701_691 := n12_; clear n0_ n1_ n2_ n3_ n4_ n5_ n6_ n7_ n8_ n9_ n10_ n11_ n12_; clear hb hbox hg; have hnb29 := NB701_680.out; have hnc29 := NB680_701.out; have hnb30 := NB701_691.out; have hnc30 := NB691_701.out; have hcz31_0 : w28.cell? ⟨gb701, 0, none⟩ = some (.int .u64 0) := (blk_cell BK701.out 0).trans rfl; have hcz31_1 : w28.cell? ⟨gb701, 1, none⟩ = some (.int .u64 0) := (blk_cell BK701.out 1).trans rfl; have hfz31_0 := blk_frozen BK701.out 0; have hfz31_1 := blk_frozen BK701.out 1))
                            have n0_ : Aside0 (Kd.N (Kd.slice 5 (Kd.int .u8)) 27 ((w28.setCell ⟨gb701, 0, none⟩ (.int .u64 ((rd_T49 t683 x38_2).f0))).setCell ⟨gb701, 1, none⟩ (.int .u64 ((rd_T49 t683 x38_2).f1))) w.heap.size (fun k_ => some k_ ≠ (.slice (some ad700) t683.length co14 : Value).ownBlock ∧ some k_ ≠ (.slice (some ad700) t683.length co14 : Value).ownBlock ∧ k_ ≠ gb680 ∧ k_ ≠ gb691 ∧ k_ ≠ gb701) u10 x10_2) := ⟨by (with_reducible repeat (first | apply Kd.N_alloc | apply Kd.N_drewN | apply Kd.N_drew)); exact Kd.N_mono (Kd.N_far (p := ⟨gb701, 1, none⟩) (Kd.N_far (p := ⟨gb701, 0, none⟩) (Kd.N_mono HO_10.out (fun k_ hk => (⟨hk, hk.2⟩ : _ ∧ k_ ≠ gb701))) (fun _ hk => hk.2) (.int .u64 ((rd_T49 t683 x38_2).f0))) (fun _ hk => hk.2) (.int .u64 ((rd_T49 t683 x38_2).f1))) (fun _ hk => ⟨hk.1.1.1, ⟨hk.1.1.2.1, ⟨hk.1.1.2.2.1, ⟨hk.1.1.2.2.2, hk.1.2⟩⟩⟩⟩)⟩
                            have n1_ : Aside0 (Kd.R k49 49 ((w28.setCell ⟨gb701, 0, none⟩ (.int .u64 ((rd_T49 t683 x38_2).f0))).setCell ⟨gb701, 1, none⟩ (.int .u64 ((rd_T49 t683 x38_2).f1))) w.heap.size (fun k_ => k_ ≠ gb701) (.slice (some ad700) t683.length co14) t683) := ⟨by (with_reducible repeat (first | apply Kd.R_alloc | apply Kd.R_drewN | apply Kd.R_drew)); exact Kd.R_mono (Kd.R_far (p := ⟨gb701, 1, none⟩) (Kd.R_far (p := ⟨gb701, 0, none⟩) (Kd.R_mono HO_36.out (fun k_ hk => (⟨hk, hk.2⟩ : _ ∧ k_ ≠ gb701))) (fun _ hk => hk.2) (.int .u64 ((rd_T49 t683 x38_2).f0))) (fun _ hk => hk.2) (.int .u64 ((rd_T49 t683 x38_2).f1))) (fun _ hk => hk.1.2)⟩
                            have n2_ : Aside0 (Kd.R k49 49 ((w28.setCell ⟨gb701, 0, none⟩ (.int .u64 ((rd_T49 t683 x38_2).f0))).setCell ⟨gb701, 1, none⟩ (.int .u64 ((rd_T49 t683 x38_2).f1))) w.heap.size (fun k_ => k_ ≠ gb701) (.slice (some ad700) t683.length co14) t683) := ⟨by (with_reducible repeat (first | apply Kd.R_alloc | apply Kd.R_drewN | apply Kd.R_drew)); exact Kd.R_mono (Kd.R_far (p := ⟨gb701, 1, none⟩) (Kd.R_far (p := ⟨gb701, 0, none⟩) (Kd.R_mono HO_692000.out (fun k_ hk => (⟨hk, hk.2⟩ : _ ∧ k_ ≠ gb701))) (fun _ hk => hk.2) (.int .u64 ((rd_T49 t683 x38_2).f0))) (fun _ hk => hk.2) (.int .u64 ((rd_T49 t683 x38_2).f1))) (fun _ hk => hk.1.2)⟩
                            have n3_ : Aside0 (((w28.setCell ⟨gb701, 0, none⟩ (.int .u64 ((rd_T49 t683 x38_2).f0))).setCell ⟨gb701, 1, none⟩ (.int .u64 ((rd_T49 t683 x38_2).f1))).heap[gb680]? = some (.cells #[.int .i64 a0_0, .int .i64 a0_1, .int .i64 a0_2, .int .u64 a0_3, .int .u64 a0_4, .int .u64 a0_5] 24 (0, 0))) := ⟨by (with_reducible repeat (first | refine blk_drewN ?_ _ | refine blk_drew ?_ | refine blk_alloc ?_ _)); refine blk_far ?_ NB680_701.out _; (with_reducible repeat (first | refine blk_drewN ?_ _ | refine blk_drew ?_ | refine blk_alloc ?_ _)); refine blk_far ?_ NB680_701.out _; (with_reducible repeat (first | refine blk_drewN ?_ _ | refine blk_drew ?_ | refine blk_alloc ?_ _)); exact BK680.out⟩
                            have n4_ : Aside0 (((w28.setCell ⟨gb701, 0, none⟩ (.int .u64 ((rd_T49 t683 x38_2).f0))).setCell ⟨gb701, 1, none⟩ (.int .u64 ((rd_T49 t683 x38_2).f1))).heap[gb691]? = some (.cells #[.slice (some ad700) t683.length co14, .int .u64 t686, .int .u64 t687, .int .i64 t688, .int .i64 t689] 61 (0, 0))) := ⟨by (with_reducible repeat (first | refine blk_drewN ?_ _ | refine blk_drew ?_ | refine blk_alloc ?_ _)); refine blk_far ?_ NB691_701.out _; (with_reducible repeat (first | refine blk_drewN ?_ _ | refine blk_drew ?_ | refine blk_alloc ?_ _)); refine blk_far ?_ NB691_701.out _; (with_reducible repeat (first | refine blk_drewN ?_ _ | refine blk_drew ?_ | refine blk_alloc ?_ _)); exact BK691.out⟩
                            have n5_ : Aside0 (((w28.setCell ⟨gb701, 0, none⟩ (.int .u64 ((rd_T49 t683 x38_2).f0))).setCell ⟨gb701, 1, none⟩ (.int .u64 ((rd_T49 t683 x38_2).f1))).heap[gb701]? = some (.cells #[.int .u64 ((rd_T49 t683 x38_2).f0), .int .u64 ((rd_T49 t683 x38_2).f1)] 49 (0, 0))) := ⟨by (with_reducible repeat (first | refine blk_drewN ?_ _ | refine blk_drew ?_ | refine blk_alloc ?_ _)); refine blk_put (cs := #[.int .u64 ((rd_T49 t683 x38_2).f0), .int .u64 0]) ?_ 1 _ rfl; (with_reducible repeat (first | refine blk_drewN ?_ _ | refine blk_drew ?_ | refine blk_alloc ?_ _)); refine blk_put (cs := #[.int .u64 0, .int .u64 0]) ?_ 0 _ rfl; (with_reducible repeat (first | refine blk_drewN ?_ _ | refine blk_drew ?_ | refine blk_alloc ?_ _)); exact BK701.out⟩
                            have n6_ : Aside0 (Below w.heap.size w ((w28.setCell ⟨gb701, 0, none⟩ (.int .u64 ((rd_T49 t683 x38_2).f0))).setCell ⟨gb701, 1, none⟩ (.int .u64 ((rd_T49 t683 x38_2).f1)))) := ⟨by repeat (first | (with_reducible first | exact HB.out | apply below_alloc | apply pw_below_drewN | apply below_drew1 | refine below_set ?_ GE680.out | refine below_set ?_ GE691.out | refine below_set ?_ GE701.out) | exact HB.out)⟩
                            (try clear HO_10)
                            (try clear HO_36)
                            (try clear HO_692000)
                            (try clear BK680)
                            (try clear BK691)
                            (try clear BK701)
                            (try clear HB)
                            generalize ((w28.setCell ⟨gb701, 0, none⟩ (.int .u64 ((rd_T49 t683 x38_2).f0))).setCell ⟨gb701, 1, none⟩ (.int .u64 ((rd_T49 t683 x38_2).f1))) = w32 at n0_ n1_ n2_ n3_ n4_ n5_ n6_ ⊢
                            have HO_10 := n0_
                            have HO_36 := n1_
                            have HO_692000 := n2_
                            have BK680 := n3_
                            have BK691 := n4_
                            have BK701 := n5_
                            have HB := n6_
                            clear n0_ n1_ n2_ n3_ n4_ n5_ n6_
                            (try (rw [drewN_self w32]; generalize hq_ : World.drewN w32 _ = w32; have n0_ : Aside0 (Kd.N (Kd.slice 5 (Kd.int .u8)) 27 w32 w.heap.size (fun k_ => some k_ ≠ (.slice (some ad700) t683.length co14 : Value).ownBlock ∧ some k_ ≠ (.slice (some ad700) t683.length co14 : Value).ownBlock ∧ k_ ≠ gb680 ∧ k_ ≠ gb691 ∧ k_ ≠ gb701) u10 x10_2) := ⟨by rw [← hq_]; exact (by (with_reducible repeat (first | apply Kd.N_alloc | apply Kd.N_drewN | apply Kd.N_drew)); exact HO_10.out)⟩; have n1_ : Aside0 (Kd.R k49 49 w32 w.heap.size (fun k_ => k_ ≠ gb701) (.slice (some ad700) t683.length co14) t683) := ⟨by rw [← hq_]; exact (by (with_reducible repeat (first | apply Kd.R_alloc | apply Kd.R_drewN | apply Kd.R_drew)); exact HO_36.out)⟩; have n2_ : Aside0 (Kd.R k49 49 w32 w.heap.size (fun k_ => k_ ≠ gb701) (.slice (some ad700) t683.length co14) t683) := ⟨by rw [← hq_]; exact (by (with_reducible repeat (first | apply Kd.R_alloc | apply Kd.R_drewN | apply Kd.R_drew)); exact HO_692000.out)⟩; have n3_ : Aside0 (w32.heap[gb680]? = some (.cells #[.int .i64 a0_0, .int .i64 a0_1, .int .i64 a0_2, .int .u64 a0_3, .int .u64 a0_4, .int .u64 a0_5] 24 (0, 0))) := ⟨by rw [← hq_]; exact (by (with_reducible repeat (first | refine blk_drewN ?_ _ | refine blk_drew ?_ | refine blk_alloc ?_ _)); exact BK680.out)⟩; have n4_ : Aside0 (w32.heap[gb691]? = some (.cells #[.slice (some ad700) t683.length co14, .int .u64 t686, .int .u64 t687, .int .i64 t688, .int .i64 t689] 61 (0, 0))) := ⟨by rw [← hq_]; exact (by (with_reducible repeat (first | refine blk_drewN ?_ _ | refine blk_drew ?_ | refine blk_alloc ?_ _)); exact BK691.out)⟩; have n5_ : Aside0 (w32.heap[gb701]? = some (.cells #[.int .u64 ((rd_T49 t683 x38_2).f0), .int .u64 ((rd_T49 t683 x38_2).f1)] 49 (0, 0))) := ⟨by rw [← hq_]; exact (by (with_reducible repeat (first | refine blk_drewN ?_ _ | refine blk_drew ?_ | refine blk_alloc ?_ _)); exact BK701.out)⟩; have n6_ : Aside0 (Below w.heap.size w w32) := ⟨by rw [← hq_]; exact (by repeat (first | (with_reducible first | exact HB.out | apply below_alloc | apply pw_below_drewN | apply below_drew1 | refine below_set ?_ GE680.out | refine below_set ?_ GE691.out | refine below_set ?_ GE701.out) | exact HB.out))⟩; clear HO_10 HO_36 HO_692000 BK680 BK691 BK701 HB hq_; have HO_10 := n0_; have HO_36 := n1_; have HO_692000 := n2_; have BK680 := n3_; have BK691 := n4_; have BK701 := n5_; have HB := n6_; clear n0_ n1_ n2_ n3_ n4_ n5_ n6_))
                            have n0_ := Aside0.mk (Kd.N_drew HO_10.out)
                            have n1_ := Aside0.mk (Kd.R_drew HO_36.out)
                            have n2_ := Aside0.mk (Kd.R_drew HO_692000.out)
                            have n3_ := Aside0.mk (blk_drew BK680.out)
                            have n4_ := Aside0.mk (blk_drew BK691.out)
                            have n5_ := Aside0.mk (blk_drew BK701.out)
                            have n6_ := Aside0.mk (below_drew1 HB.out)
                            clear HO_10
                            clear HO_36
                            clear HO_692000
                            clear BK680
                            clear BK691
                            clear BK701
                            clear HB
                            have HO_10 := n0_
                            have HO_36 := n1_
                            have HO_692000 := n2_
                            have BK680 := n3_
                            have BK691 := n4_
                            have BK701 := n5_
                            have HB := n6_
                            clear n0_ n1_ n2_ n3_ n4_ n5_ n6_
                            refine start_ (n := 19) (S := fun w' => w'.cell? ⟨gb701, 0, none⟩ = some (.int .u64 ((rd_T49 t683 x38_2).f0)) ∧ w'.cell? ⟨gb701, 1, none⟩ = some (.int .u64 ((rd_T49 t683 x38_2).f1))) (ds := []) #[false, false, false, false, false, false, false, false, false, false, false, false, false, false, false, false, false, false, false] (by kernel_rfl) rfl rfl ⟨(blk_cell BK701.out 0).trans rfl, (blk_cell BK701.out 1).trans rfl⟩ (fun hHeld => ?_); refine with_tabW laws_FnInclusionMade.tab11 laws_FnInclusionMade.bits11 (fun HT_ HW_ => ?_)
                            generalize w32.drew = w33 at HO_10 HO_36 HO_692000 BK680 BK691 BK701 HB hHeld ⊢
                            refine pure_ (i := 0) (N := some 42) (v := ?_) (a' := ?_) #[true, false, false, false, false, false, false, false, false, false, false, false, false, false, false, false, false, false, false] rfl rfl (any_of HT_.out (by kernel_rfl)) (fun _ _ _ h => h) (Or.inl ⟨by rfl, ?_⟩) ?_ ?_
                            rotate_left
                            · intro w'
                              go_simp
                              with_reducible rfl
                            rotate_left
                            · simp only [Act.put, List.setIfInBounds_toArray, List.set_cons_zero, List.set_cons_succ, i64_w, i32_w]
                              rfl
                            refine take_ (i := 1) (N := some 43) (v := ?_) (a' := ?_) #[true, true, false, false, false, false, false, false, false, false, false, false, false, false, false, false, false, false, false] rfl rfl (take_ofW HT_.out HW_.out (by kernel_rfl)) (fun _ _ _ h => h) (Or.inl ⟨by rfl, ?_⟩) hHeld ?_ ?_
                            rotate_left
                            · rintro w' ⟨s0, s1⟩
                              go_simp
                              with_reducible rfl
                            rotate_left
                            · simp only [Act.put, List.setIfInBounds_toArray, List.set_cons_zero, List.set_cons_succ, i64_w, i32_w]
                              rfl
                            refine pure_ (i := 2) (N := some 44) (v := ?_) (a' := ?_) #[true, true, true, false, false, false, false, false, false, false, false, false, false, false, false, false, false, false, false] rfl rfl (any_of HT_.out (by kernel_rfl)) (fun _ _ _ h => h) (Or.inl ⟨by rfl, ?_⟩) ?_ ?_
                            rotate_left
                            · intro w'
                              go_simp
                              with_reducible rfl
                            rotate_left
                            · simp only [Act.put, List.setIfInBounds_toArray, List.set_cons_zero, List.set_cons_succ, i64_w, i32_w]
                              rfl
                            refine pure_ (i := 3) (N := some 45) (v := ?_) (a' := ?_) #[true, true, true, true, false, false, false, false, false, false, false, false, false, false, false, false, false, false, false] rfl rfl (any_of HT_.out (by kernel_rfl)) (fun _ _ _ h => h) (Or.inl ⟨by rfl, ?_⟩) ?_ ?_
                            rotate_left
                            · intro w'
                              go_simp
                              with_reducible rfl
                            rotate_left
                            · simp only [Act.put, List.setIfInBounds_toArray, List.set_cons_zero, List.set_cons_succ, i64_w, i32_w]
                              rfl
                            refine take_ (i := 4) (N := some 46) (v := ?_) (a' := ?_) #[true, true, true, true, true, false, false, false, false, false, false, false, false, false, false, false, false, false, false] rfl rfl (take_ofW HT_.out HW_.out (by kernel_rfl)) (fun _ _ _ h => h) (Or.inl ⟨by rfl, ?_⟩) hHeld ?_ ?_
                            rotate_left
                            · rintro w' ⟨s0, s1⟩
                              go_simp
                              with_reducible rfl
                            rotate_left
                            · simp only [Act.put, List.setIfInBounds_toArray, List.set_cons_zero, List.set_cons_succ, i64_w, i32_w]
                              rfl
                            refine take_ (i := 7) (N := some 49) (v := ?_) (a' := ?_) #[true, true, true, true, true, false, false, true, false, false, false, false, false, false, false, false, false, false, false] rfl rfl (take_ofW HT_.out HW_.out (by kernel_rfl)) (fun _ _ _ h => h) (Or.inl ⟨by rfl, ?_⟩) hHeld ?_ ?_
                            rotate_left
                            · rintro w' ⟨s0, s1⟩
                              go_simp
                              with_reducible rfl
                            rotate_left
                            · simp only [Act.put, List.setIfInBounds_toArray, List.set_cons_zero, List.set_cons_succ, i64_w, i32_w]
                              rfl
                            refine one_ (i := 5) (N := some 47) #[true, true, true, true, true, true, false, true, false, false, false, false, false, false, false, false, false, false, false] rfl rfl (one_of HT_.out (by kernel_rfl)) (by decide) (fun K hK => ?_)
                            refine goes_ Tryd.func25 (by kernel_rfl) rfl #[.agg #[.int .u64 ((rd_T49 t683 x38_2).f0), .int .u64 ((rd_T49 t683 x38_2).f1)]] (by rfl) rfl rfl (by (try simp only [List.map_toArray, List.map_cons, List.map_nil]); first | done | rfl | (simp only [List.length_drop, List.length_take]; rfl)) ?_
                            with_reducible refine (spec_Leaves.calls ((rd_T49 t683 x38_2).f0) ((rd_T49 t683 x38_2).f1) t702 t703 _ A21.out).mono ?_
                            rintro e w34 ⟨rfl, hb⟩
                            refine ⟨_, rfl, ?_⟩
                            have n0_ := Aside0.mk (Kd.N_below (by (with_reducible repeat (first | apply Kd.N_alloc | apply Kd.N_drewN | apply Kd.N_drew)); exact HO_10.out) hb)
                            have n1_ := Aside0.mk (Kd.R_below (by (with_reducible repeat (first | apply Kd.R_alloc | apply Kd.R_drewN | apply Kd.R_drew)); exact HO_36.out) hb)
                            have n2_ := Aside0.mk (Kd.R_below (by (with_reducible repeat (first | apply Kd.R_alloc | apply Kd.R_drewN | apply Kd.R_drew)); exact HO_692000.out) hb)
                            have n3_ := Aside0.mk (blk_below (g := gb680) (o := .cells #[.int .i64 a0_0, .int .i64 a0_1, .int .i64 a0_2, .int .u64 a0_3, .int .u64 a0_4, .int .u64 a0_5] 24 (0, 0)) (by (with_reducible repeat (first | refine blk_drewN ?_ _ | refine blk_drew ?_ | refine blk_alloc ?_ _)); exact BK680.out) hb)
                            have n4_ := Aside0.mk (blk_below (g := gb691) (o := .cells #[.slice (some ad700) t683.length co14, .int .u64 t686, .int .u64 t687, .int .i64 t688, .int .i64 t689] 61 (0, 0)) (by (with_reducible repeat (first | refine blk_drewN ?_ _ | refine blk_drew ?_ | refine blk_alloc ?_ _)); exact BK691.out) hb)
                            have n5_ := Aside0.mk (blk_below (g := gb701) (o := .cells #[.int .u64 ((rd_T49 t683 x38_2).f0), .int .u64 ((rd_T49 t683 x38_2).f1)] 49 (0, 0)) (by (with_reducible repeat (first | refine blk_drewN ?_ _ | refine blk_drew ?_ | refine blk_alloc ?_ _)); exact BK701.out) hb)
                            have n6_ := Aside0.mk (below_step (by repeat (first | (with_reducible first | exact HB.out | apply below_alloc | apply pw_below_drewN | apply below_drew1 | refine below_set ?_ GE680.out | refine below_set ?_ GE691.out | refine below_set ?_ GE701.out) | exact HB.out)) hb)
                            clear HO_10
                            clear HO_36
                            clear HO_692000
                            clear BK680
                            clear BK691
                            clear BK701
                            clear HB
                            have HO_10 := n0_
                            have HO_36 := n1_
                            have HO_692000 := n2_
                            have BK680 := n3_
                            have BK691 := n4_
                            have BK701 := n5_
                            have HB := n6_
                            clear n0_ n1_ n2_ n3_ n4_ n5_ n6_
                            (try clear hb)
                            (try clear hb2)
                            (try clear hk)
                            (try clear hi)
                            refine hK.out _ _ ⟨(blk_cell BK701.out 0).trans rfl, (blk_cell BK701.out 1).trans rfl⟩ (fun hHeld => ?_)
                            clear hK K
                            refine norm_ (a' := ?_) ?_ ?_
                            rotate_left
                            · show Act.put _ (some 47) _ = _
                              simp only [Act.put, List.setIfInBounds_toArray, List.set_cons_zero, List.set_cons_succ, i64_w, i32_w]
                              rfl
                            refine pure_ (i := 6) (N := some 48) (v := ?_) (a' := ?_) #[true, true, true, true, true, true, true, true, false, false, false, false, false, false, false, false, false, false, false] rfl rfl (any_of HT_.out (by kernel_rfl)) (fun _ _ _ h => h) (Or.inl ⟨by rfl, ?_⟩) ?_ ?_
                            rotate_left
                            · intro w'
                              go_simp
                              with_reducible rfl
                            rotate_left
                            · simp only [Act.put, List.setIfInBounds_toArray, List.set_cons_zero, List.set_cons_succ, i64_w, i32_w]
                              rfl
                            refine one_ (i := 8) (N := some 50) #[true, true, true, true, true, true, true, true, true, false, false, false, false, false, false, false, false, false, false] rfl rfl (one_of HT_.out (by kernel_rfl)) (by decide) (fun K hK => ?_)
                            refine goes_ Tryd.func25 (by kernel_rfl) rfl #[.agg #[.int .u64 ((rd_T49 t683 x38_2).f0), .int .u64 ((rd_T49 t683 x38_2).f1)]] (by rfl) rfl rfl (by (try simp only [List.map_toArray, List.map_cons, List.map_nil]); first | done | rfl | (simp only [List.length_drop, List.length_take]; rfl)) ?_
                            with_reducible refine (spec_Leaves.calls ((rd_T49 t683 x38_2).f0) ((rd_T49 t683 x38_2).f1) t704 t705 _ A22.out).mono ?_
                            rintro e w35 ⟨rfl, hb⟩
                            refine ⟨_, rfl, ?_⟩
                            have n0_ := Aside0.mk (Kd.N_below (by (with_reducible repeat (first | apply Kd.N_alloc | apply Kd.N_drewN | apply Kd.N_drew)); exact HO_10.out) hb)
                            have n1_ := Aside0.mk (Kd.R_below (by (with_reducible repeat (first | apply Kd.R_alloc | apply Kd.R_drewN | apply Kd.R_drew)); exact HO_36.out) hb)
                            have n2_ := Aside0.mk (Kd.R_below (by (with_reducible repeat (first | apply Kd.R_alloc | apply Kd.R_drewN | apply Kd.R_drew)); exact HO_692000.out) hb)
                            have n3_ := Aside0.mk (blk_below (g := gb680) (o := .cells #[.int .i64 a0_0, .int .i64 a0_1, .int .i64 a0_2, .int .u64 a0_3, .int .u64 a0_4, .int .u64 a0_5] 24 (0, 0)) (by (with_reducible repeat (first | refine blk_drewN ?_ _ | refine blk_drew ?_ | refine blk_alloc ?_ _)); exact BK680.out) hb)
                            have n4_ := Aside0.mk (blk_below (g := gb691) (o := .cells #[.slice (some ad700) t683.length co14, .int .u64 t686, .int .u64 t687, .int .i64 t688, .int .i64 t689] 61 (0, 0)) (by (with_reducible repeat (first | refine blk_drewN ?_ _ | refine blk_drew ?_ | refine blk_alloc ?_ _)); exact BK691.out) hb)
                            have n5_ := Aside0.mk (blk_below (g := gb701) (o := .cells #[.int .u64 ((rd_T49 t683 x38_2).f0), .int .u64 ((rd_T49 t683 x38_2).f1)] 49 (0, 0)) (by (with_reducible repeat (first | refine blk_drewN ?_ _ | refine blk_drew ?_ | refine blk_alloc ?_ _)); exact BK701.out) hb)
                            have n6_ := Aside0.mk (below_step (by repeat (first | (with_reducible first | exact HB.out | apply below_alloc | apply pw_below_drewN | apply below_drew1 | refine below_set ?_ GE680.out | refine below_set ?_ GE691.out | refine below_set ?_ GE701.out) | exact HB.out)) hb)
                            clear HO_10
                            clear HO_36
                            clear HO_692000
                            clear BK680
                            clear BK691
                            clear BK701
                            clear HB
                            have HO_10 := n0_
                            have HO_36 := n1_
                            have HO_692000 := n2_
                            have BK680 := n3_
                            have BK691 := n4_
                            have BK701 := n5_
                            have HB := n6_
                            clear n0_ n1_ n2_ n3_ n4_ n5_ n6_
                            (try clear hb)
                            (try clear hb2)
                            (try clear hk)
                            (try clear hi)
                            refine hK.out _ _ ⟨(blk_cell BK701.out 0).trans rfl, (blk_cell BK701.out 1).trans rfl⟩ (fun hHeld => ?_)
                            clear hK K
                            refine norm_ (a' := ?_) ?_ ?_
                            rotate_left
                            · show Act.put _ (some 50) _ = _
                              simp only [Act.put, List.setIfInBounds_toArray, List.set_cons_zero, List.set_cons_succ, i64_w, i32_w]
                              rfl
                            refine pure_ (i := 9) (N := some 51) (v := ?_) (a' := ?_) #[true, true, true, true, true, true, true, true, true, true, false, false, false, false, false, false, false, false, false] rfl rfl (any_of HT_.out (by kernel_rfl)) (fun _ _ _ h => h) (Or.inl ⟨by rfl, ?_⟩) ?_ ?_
                            rotate_left
                            · intro w'
                              go_simp
                              with_reducible rfl
                            rotate_left
                            · simp only [Act.put, List.setIfInBounds_toArray, List.set_cons_zero, List.set_cons_succ, i64_w, i32_w]
                              rfl
                            refine pure_ (i := 10) (N := some 52) (v := ?_) (a' := ?_) #[true, true, true, true, true, true, true, true, true, true, true, false, false, false, false, false, false, false, false] rfl rfl (any_of HT_.out (by kernel_rfl)) (fun _ _ _ h => h) (Or.inl ⟨by rfl, ?_⟩) ?_ ?_
                            rotate_left
                            · intro w'
                              go_simp
                              with_reducible rfl
                            rotate_left
                            · simp only [Act.put, List.setIfInBounds_toArray, List.set_cons_zero, List.set_cons_succ, i64_w, i32_w]
                              rfl
                            refine pure_ (i := 11) (N := some 53) (v := ?_) (a' := ?_) #[true, true, true, true, true, true, true, true, true, true, true, true, false, false, false, false, false, false, false] rfl rfl (any_of HT_.out (by kernel_rfl)) (fun _ _ _ h => h) (Or.inl ⟨by rfl, ?_⟩) ?_ ?_
                            rotate_left
                            · intro w'
                              go_simp
                              with_reducible rfl
                            rotate_left
                            · simp only [Act.put, List.setIfInBounds_toArray, List.set_cons_zero, List.set_cons_succ, i64_w, i32_w]
                              rfl
                            refine pure_ (i := 12) (N := some 54) (v := ?_) (a' := ?_) #[true, true, true, true, true, true, true, true, true, true, true, true, true, false, false, false, false, false, false] rfl rfl (any_of HT_.out (by kernel_rfl)) (fun _ _ _ h => h) (Or.inl ⟨by rfl, ?_⟩) ?_ ?_
                            rotate_left
                            · intro w'
                              go_simp
                              with_reducible rfl
                            rotate_left
                            · simp only [Act.put, List.setIfInBounds_toArray, List.set_cons_zero, List.set_cons_succ, i64_w, i32_w]
                              rfl
                            refine pure_ (i := 16) (N := some 58) (v := ?_) (a' := ?_) #[true, true, true, true, true, true, true, true, true, true, true, true, true, false, false, false, true, false, false] rfl rfl (any_of HT_.out (by kernel_rfl)) (fun _ _ _ h => h) (Or.inl ⟨by rfl, ?_⟩) ?_ ?_
                            rotate_left
                            · intro w'
                              go_simp
                              with_reducible rfl
                            rotate_left
                            · simp only [Act.put, List.setIfInBounds_toArray, List.set_cons_zero, List.set_cons_succ, i64_w, i32_w]
                              rfl
                            refine take_ (i := 13) (N := some 55) (v := ?_) (a' := ?_) #[true, true, true, true, true, true, true, true, true, true, true, true, true, true, false, false, true, false, false] rfl rfl (take_ofW HT_.out HW_.out (by kernel_rfl)) (fun _ _ _ h => h) (Or.inl ⟨by rfl, ?_⟩) hHeld ?_ ?_
                            rotate_left
                            · rintro w' ⟨s0, s1⟩
                              go_simp
                              with_reducible rfl
                            rotate_left
                            · simp only [Act.put, List.setIfInBounds_toArray, List.set_cons_zero, List.set_cons_succ, i64_w, i32_w]
                              rfl
                            refine one_ (i := 14) (N := some 56) #[true, true, true, true, true, true, true, true, true, true, true, true, true, true, true, false, true, false, false] rfl rfl (one_of HT_.out (by kernel_rfl)) (by decide) (fun K hK => ?_)
                            refine goes_ Tryd.func25 (by kernel_rfl) rfl #[.agg #[.int .u64 ((rd_T49 t683 x38_2).f0), .int .u64 ((rd_T49 t683 x38_2).f1)]] (by rfl) rfl rfl (by (try simp only [List.map_toArray, List.map_cons, List.map_nil]); first | done | rfl | (simp only [List.length_drop, List.length_take]; rfl)) ?_
                            with_reducible refine (spec_Leaves.calls ((rd_T49 t683 x38_2).f0) ((rd_T49 t683 x38_2).f1) t706 t707 _ A24.out).mono ?_
                            rintro e w36 ⟨rfl, hb⟩
                            refine ⟨_, rfl, ?_⟩
                            have n0_ := Aside0.mk (Kd.N_below (by (with_reducible repeat (first | apply Kd.N_alloc | apply Kd.N_drewN | apply Kd.N_drew)); exact HO_10.out) hb)
                            have n1_ := Aside0.mk (Kd.R_below (by (with_reducible repeat (first | apply Kd.R_alloc | apply Kd.R_drewN | apply Kd.R_drew)); exact HO_36.out) hb)
                            have n2_ := Aside0.mk (Kd.R_below (by (with_reducible repeat (first | apply Kd.R_alloc | apply Kd.R_drewN | apply Kd.R_drew)); exact HO_692000.out) hb)
                            have n3_ := Aside0.mk (blk_below (g := gb680) (o := .cells #[.int .i64 a0_0, .int .i64 a0_1, .int .i64 a0_2, .int .u64 a0_3, .int .u64 a0_4, .int .u64 a0_5] 24 (0, 0)) (by (with_reducible repeat (first | refine blk_drewN ?_ _ | refine blk_drew ?_ | refine blk_alloc ?_ _)); exact BK680.out) hb)
                            have n4_ := Aside0.mk (blk_below (g := gb691) (o := .cells #[.slice (some ad700) t683.length co14, .int .u64 t686, .int .u64 t687, .int .i64 t688, .int .i64 t689] 61 (0, 0)) (by (with_reducible repeat (first | refine blk_drewN ?_ _ | refine blk_drew ?_ | refine blk_alloc ?_ _)); exact BK691.out) hb)
                            have n5_ := Aside0.mk (blk_below (g := gb701) (o := .cells #[.int .u64 ((rd_T49 t683 x38_2).f0), .int .u64 ((rd_T49 t683 x38_2).f1)] 49 (0, 0)) (by (with_reducible repeat (first | refine blk_drewN ?_ _ | refine blk_drew ?_ | refine blk_alloc ?_ _)); exact BK701.out) hb)
                            have n6_ := Aside0.mk (below_step (by repeat (first | (with_reducible first | exact HB.out | apply below_alloc | apply pw_below_drewN | apply below_drew1 | refine below_set ?_ GE680.out | refine below_set ?_ GE691.out | refine below_set ?_ GE701.out) | exact HB.out)) hb)
                            clear HO_10
                            clear HO_36
                            clear HO_692000
                            clear BK680
                            clear BK691
                            clear BK701
                            clear HB
                            have HO_10 := n0_
                            have HO_36 := n1_
                            have HO_692000 := n2_
                            have BK680 := n3_
                            have BK691 := n4_
                            have BK701 := n5_
                            have HB := n6_
                            clear n0_ n1_ n2_ n3_ n4_ n5_ n6_
                            (try clear hb)
                            (try clear hb2)
                            (try clear hk)
                            (try clear hi)
                            refine hK.out _ _ ⟨(blk_cell BK701.out 0).trans rfl, (blk_cell BK701.out 1).trans rfl⟩ (fun hHeld => ?_)
                            clear hK K
                            refine norm_ (a' := ?_) ?_ ?_
                            rotate_left
                            · show Act.put _ (some 56) _ = _
                              simp only [Act.put, List.setIfInBounds_toArray, List.set_cons_zero, List.set_cons_succ, i64_w, i32_w]
                              rfl
                            refine pure_ (i := 15) (N := some 57) (v := ?_) (a' := ?_) #[true, true, true, true, true, true, true, true, true, true, true, true, true, true, true, true, true, false, false] rfl rfl (any_of HT_.out (by kernel_rfl)) (fun _ _ _ h => h) (Or.inl ⟨by rfl, ?_⟩) ?_ ?_
                            rotate_left
                            · intro w'
                              go_simp
                              with_reducible rfl
                            rotate_left
                            · simp only [Act.put, List.setIfInBounds_toArray, List.set_cons_zero, List.set_cons_succ, i64_w, i32_w]
                              rfl
                            refine pure_ (i := 17) (N := some 59) (v := ?_) (a' := ?_) #[true, true, true, true, true, true, true, true, true, true, true, true, true, true, true, true, true, true, false] rfl rfl (any_of HT_.out (by kernel_rfl)) (fun _ _ _ h => h) (Or.inl ⟨by rfl, ?_⟩) ?_ ?_
                            rotate_left
                            · intro w'
                              go_simp
                              with_reducible rfl
                            rotate_left
                            · simp only [Act.put, List.setIfInBounds_toArray, List.set_cons_zero, List.set_cons_succ, i64_w, i32_w]
                              rfl
                            refine pure_ (i := 18) (N := some 60) (v := ?_) (a' := ?_) #[true, true, true, true, true, true, true, true, true, true, true, true, true, true, true, true, true, true, true] rfl rfl (any_of HT_.out (by kernel_rfl)) (fun _ _ _ h => h) (Or.inl ⟨by rfl, ?_⟩) ?_ ?_
                            rotate_left
                            · intro w'
                              go_simp
                              with_reducible rfl
                            rotate_left
                            · simp only [Act.put, List.setIfInBounds_toArray, List.set_cons_zero, List.set_cons_succ, i64_w, i32_w]
                              rfl
                            refine done_ (done_of HT_.out (by kernel_rfl)) ?_
                            have hnb37 := NB680_691.out
                            have hnc37 := NB691_680.out
                            have hcz38_0 : w36.cell? ⟨gb680, 0, none⟩ = some (.int .i64 a0_0) := (blk_cell BK680.out 0).trans rfl
                            have hcz38_1 : w36.cell? ⟨gb680, 1, none⟩ = some (.int .i64 a0_1) := (blk_cell BK680.out 1).trans rfl
                            have hcz38_2 : w36.cell? ⟨gb680, 2, none⟩ = some (.int .i64 a0_2) := (blk_cell BK680.out 2).trans rfl
                            have hcz38_3 : w36.cell? ⟨gb680, 3, none⟩ = some (.int .u64 a0_3) := (blk_cell BK680.out 3).trans rfl
                            have hcz38_4 : w36.cell? ⟨gb680, 4, none⟩ = some (.int .u64 a0_4) := (blk_cell BK680.out 4).trans rfl
                            have hcz38_5 : w36.cell? ⟨gb680, 5, none⟩ = some (.int .u64 a0_5) := (blk_cell BK680.out 5).trans rfl
                            have hfz38_0 := blk_frozen BK680.out 0
                            have hfz38_1 := blk_frozen BK680.out 1
                            have hfz38_2 := blk_frozen BK680.out 2
                            have hfz38_3 := blk_frozen BK680.out 3
                            have hfz38_4 := blk_frozen BK680.out 4
                            have hfz38_5 := blk_frozen BK680.out 5
                            have hcz39_0 : w36.cell? ⟨gb701, 0, none⟩ = some (.int .u64 ((rd_T49 t683 x38_2).f0)) := (blk_cell BK701.out 0).trans rfl
                            have hcz39_1 : w36.cell? ⟨gb701, 1, none⟩ = some (.int .u64 ((rd_T49 t683 x38_2).f1)) := (blk_cell BK701.out 1).trans rfl
                            have hfz39_0 := blk_frozen BK701.out 0
                            have hfz39_1 := blk_frozen BK701.out 1
                            try go_wp2_with (first | ((with_reducible refine gate_callee (f := 32) rfl ?_); refine goesL_ (some 65) rfl rfl Tryd.func32 (by kernel_rfl) rfl #[.agg #[.int .i64 a0_0, .int .i64 a0_1, .int .i64 a0_2, .int .u64 a0_3, .int .u64 a0_4, .int .u64 a0_5], .slice A1 l1.length c1, .agg #[.int .u64 ((rd_T49 t683 x38_2).f0), .int .u64 ((rd_T49 t683 x38_2).f1)]] rfl (by (try simp only [List.map_toArray, List.map_cons, List.map_nil]); first | done | rfl | (simp only [List.length_drop, List.length_take]; rfl)) ?_; (with_reducible refine (spec_NodeHash.calls k2 a0_0 a0_1 a0_2 a0_3 a0_4 a0_5 (fun k_ => k_ < w.heap.size) _ _ l1 ((rd_T49 t683 x38_2).f0) ((rd_T49 t683 x38_2).f1) t708 _ ?side1 A26.out).mono ?_); (case side1 => exact Kd.V_mk HC1.out (Kd.F_below (Kd.C_F (Kd.heap_slice 5 (Kd.heap_int .u8)) HR1.out) (by repeat (first | (with_reducible first | exact HB.out | apply below_alloc | apply pw_below_drewN | apply below_drew1 | refine below_set ?_ GE680.out | refine below_set ?_ GE691.out | refine below_set ?_ GE701.out) | exact HB.out)))); rintro e w40 ⟨v709, rfl, ho0, hb⟩; refine ⟨_, rfl, ?_⟩; have n0_ := Aside0.mk (Kd.N_below (by (with_reducible repeat (first | apply Kd.N_alloc | apply Kd.N_drewN | apply Kd.N_drew)); exact HO_10.out) hb); have n1_ := Aside0.mk (Kd.R_below (by (with_reducible repeat (first | apply Kd.R_alloc | apply Kd.R_drewN | apply Kd.R_drew)); exact HO_36.out) hb); have n2_ := Aside0.mk (Kd.R_below (by (with_reducible repeat (first | apply Kd.R_alloc | apply Kd.R_drewN | apply Kd.R_drew)); exact HO_692000.out) hb); have n3_ := Aside0.mk (Kd.V_lower (Kd.V_mono (ok' := fun k_ => some k_ ≠ (u10 : Value).ownBlock ∧ some k_ ≠ (.slice (some ad700) t683.length co14 : Value).ownBlock ∧ some k_ ≠ (.slice (some ad700) t683.length co14 : Value).ownBlock ∧ k_ ≠ gb680 ∧ k_ ≠ gb691 ∧ k_ ≠ gb701) ho0 (fun k_ hk_ => ⟨Or.elim hk_ (fun hs_ => fun e_ => Nat.not_le.2 hs_ (Kd.N_base HO_10.out k_ e_.symm)) (fun hn_ => (Kd.fresh' (Kd.N_lt (by (with_reducible repeat (first | apply Kd.N_alloc | apply Kd.N_drewN | apply Kd.N_drew)); exact HO_10.out)) k_ hn_)), Or.elim hk_ (fun hs_ => fun e_ => Nat.not_le.2 hs_ (Kd.R_base HO_36.out k_ e_.symm)) (fun hn_ => (Kd.fresh' (Kd.R_lt (by (with_reducible repeat (first | apply Kd.R_alloc | apply Kd.R_drewN | apply Kd.R_drew)); exact HO_36.out)) k_ hn_)), Or.elim hk_ (fun hs_ => fun e_ => Nat.not_le.2 hs_ (Kd.R_base HO_692000.out k_ e_.symm)) (fun hn_ => (Kd.fresh' (Kd.R_lt (by (with_reducible repeat (first | apply Kd.R_alloc | apply Kd.R_drewN | apply Kd.R_drew)); exact HO_692000.out)) k_ hn_)), Or.elim hk_ (fun hs_ => fun e_ => Nat.not_le.2 hs_ (by rw [e_]; exact GW680.out)) (fun hn_ => (Kd.freshB (g := gb680) (o := .cells #[.int .i64 a0_0, .int .i64 a0_1, .int .i64 a0_2, .int .u64 a0_3, .int .u64 a0_4, .int .u64 a0_5] 24 (0, 0)) (by (with_reducible repeat (first | refine blk_drewN ?_ _ | refine blk_drew ?_ | refine blk_alloc ?_ _)); exact BK680.out) k_ hn_)), Or.elim hk_ (fun hs_ => fun e_ => Nat.not_le.2 hs_ (by rw [e_]; exact GW691.out)) (fun hn_ => (Kd.freshB (g := gb691) (o := .cells #[.slice (some ad700) t683.length co14, .int .u64 t686, .int .u64 t687, .int .i64 t688, .int .i64 t689] 61 (0, 0)) (by (with_reducible repeat (first | refine blk_drewN ?_ _ | refine blk_drew ?_ | refine blk_alloc ?_ _)); exact BK691.out) k_ hn_)), Or.elim hk_ (fun hs_ => fun e_ => Nat.not_le.2 hs_ (by rw [e_]; exact GW701.out)) (fun hn_ => (Kd.freshB (g := gb701) (o := .cells #[.int .u64 ((rd_T49 t683 x38_2).f0), .int .u64 ((rd_T49 t683 x38_2).f1)] 49 (0, 0)) (by (with_reducible repeat (first | refine blk_drewN ?_ _ | refine blk_drew ?_ | refine blk_alloc ?_ _)); exact BK701.out) k_ hn_))⟩)) (below_size (by repeat (first | (with_reducible first | exact HB.out | apply below_alloc | apply pw_below_drewN | apply below_drew1 | refine below_set ?_ GE680.out | refine below_set ?_ GE691.out | refine below_set ?_ GE701.out) | exact HB.out)))); have n4_ := Aside0.mk (blk_below (g := gb680) (o := .cells #[.int .i64 a0_0, .int .i64 a0_1, .int .i64 a0_2, .int .u64 a0_3, .int .u64 a0_4, .int .u64 a0_5] 24 (0, 0)) (by (with_reducible repeat (first | refine blk_drewN ?_ _ | refine blk_drew ?_ | refine blk_alloc ?_ _)); exact BK680.out) hb); have n5_ := Aside0.mk (blk_below (g := gb691) (o := .cells #[.slice (some ad700) t683.length co14, .int .u64 t686, .int .u64 t687, .int .i64 t688, .int .i64 t689] 61 (0, 0)) (by (with_reducible repeat (first | refine blk_drewN ?_ _ | refine blk_drew ?_ | refine blk_alloc ?_ _)); exact BK691.out) hb); have n6_ := Aside0.mk (blk_below (g := gb701) (o := .cells #[.int .u64 ((rd_T49 t683 x38_2).f0), .int .u64 ((rd_T49 t683 x38_2).f1)] 49 (0, 0)) (by (with_reducible repeat (first | refine blk_drewN ?_ _ | refine blk_drew ?_ | refine blk_alloc ?_ _)); exact BK701.out) hb); have n7_ := Aside0.mk (below_step (by repeat (first | (with_reducible first | exact HB.out | apply below_alloc | apply pw_below_drewN | apply below_drew1 | refine below_set ?_ GE680.out | refine below_set ?_ GE691.out | refine below_set ?_ GE701.out) | exact HB.out)) hb); clear HO_10; clear HO_36; clear HO_692000; clear BK680; clear BK691; clear BK701; clear HB; have HO_10 := n0_; have HO_36 := n1_; have HO_692000 := n2_; have HO710 := n3_; have BK680 := n4_; have BK691 := n5_; have BK701 := n6_; have HB := n7_; clear n0_ n1_ n2_ n3_ n4_ n5_ n6_ n7_; (try clear hb); (try clear hb2); (try clear hk); (try clear hi); (try clear ho0); obtain ⟨Ao42, co42, eo42⟩ := Kd.V_slice HO710.out; subst eo42) | ((with_reducible refine gate_builtin (b := .append) (xs := #[.tmp 61, .tmp 66]) rfl ?_); at_builtin; refine Kd.N_append (Kd.slice 5 (Kd.int .u8)) (w0 := w) w.heap.size rfl (.tmp 61) (.tmp 66) 25 27 (.slice none 0 0) 24 rfl Tryd.underlying25 info27 rfl (by decide) (by omega) u10 x10_2 t708 [.slice Ao42 t708.length co42] (fun k_ => some k_ ≠ (.slice (some ad700) t683.length co14 : Value).ownBlock ∧ some k_ ≠ (.slice (some ad700) t683.length co14 : Value).ownBlock ∧ k_ ≠ gb680 ∧ k_ ≠ gb691 ∧ k_ ≠ gb701) (fun k_ => ((fun k_ => some k_ ≠ (.slice (some ad700) t683.length co14 : Value).ownBlock ∧ some k_ ≠ (.slice (some ad700) t683.length co14 : Value).ownBlock ∧ k_ ≠ gb680 ∧ k_ ≠ gb691 ∧ k_ ≠ gb701)) k_ ∧ some k_ ≠ (u10 : Value).ownBlock) rfl rfl ?aP (fun _ hk => hk) ?aF ?aO ?aB ?aS ?aL ?_; (case aP => exact (Kd.FK_slice_mk (Kd.V_reads' (Kd.V_mono (ok' := (fun k_ => ((fun k_ => some k_ ≠ (.slice (some ad700) t683.length co14 : Value).ownBlock ∧ some k_ ≠ (.slice (some ad700) t683.length co14 : Value).ownBlock ∧ k_ ≠ gb680 ∧ k_ ≠ gb691 ∧ k_ ≠ gb701)) k_ ∧ some k_ ≠ (u10 : Value).ownBlock)) (HO710.out) (fun k_ hk => ⟨⟨hk.2.1, ⟨hk.2.2.1, ⟨hk.2.2.2.1, ⟨hk.2.2.2.2.1, hk.2.2.2.2.2⟩⟩⟩⟩, hk.1⟩))).2.1 (Kd.V_F (Kd.V_mono (ok' := (fun k_ => ((fun k_ => some k_ ≠ (.slice (some ad700) t683.length co14 : Value).ownBlock ∧ some k_ ≠ (.slice (some ad700) t683.length co14 : Value).ownBlock ∧ k_ ≠ gb680 ∧ k_ ≠ gb691 ∧ k_ ≠ gb701)) k_ ∧ some k_ ≠ (u10 : Value).ownBlock)) (HO710.out) (fun k_ hk => ⟨⟨hk.2.1, ⟨hk.2.2.1, ⟨hk.2.2.2.1, ⟨hk.2.2.2.2.1, hk.2.2.2.2.2⟩⟩⟩⟩, hk.1⟩))))); (case aB => exact (by repeat (first | (with_reducible first | exact HB.out | apply below_alloc | apply pw_below_drewN | apply below_drew1 | refine below_set ?_ GE680.out | refine below_set ?_ GE691.out | refine below_set ?_ GE701.out) | exact HB.out))); (case aF => exact (fun k_ hk => ⟨Kd.fresh' (Kd.R_lt (by (with_reducible repeat (first | apply Kd.R_alloc | apply Kd.R_drewN | apply Kd.R_drew)); exact HO_36.out)) k_ hk, Kd.fresh' (Kd.R_lt (by (with_reducible repeat (first | apply Kd.R_alloc | apply Kd.R_drewN | apply Kd.R_drew)); exact HO_692000.out)) k_ hk, Kd.freshB (g := gb680) (o := .cells #[.int .i64 a0_0, .int .i64 a0_1, .int .i64 a0_2, .int .u64 a0_3, .int .u64 a0_4, .int .u64 a0_5] 24 (0, 0)) (by (with_reducible repeat (first | refine blk_drewN ?_ _ | refine blk_drew ?_ | refine blk_alloc ?_ _)); exact BK680.out) k_ hk, Kd.freshB (g := gb691) (o := .cells #[.slice (some ad700) t683.length co14, .int .u64 t686, .int .u64 t687, .int .i64 t688, .int .i64 t689] 61 (0, 0)) (by (with_reducible repeat (first | refine blk_drewN ?_ _ | refine blk_drew ?_ | refine blk_alloc ?_ _)); exact BK691.out) k_ hk, Kd.freshB (g := gb701) (o := .cells #[.int .u64 ((rd_T49 t683 x38_2).f0), .int .u64 ((rd_T49 t683 x38_2).f1)] 49 (0, 0)) (by (with_reducible repeat (first | refine blk_drewN ?_ _ | refine blk_drew ?_ | refine blk_alloc ?_ _)); exact BK701.out) k_ hk⟩)); (case aO => exact (by (with_reducible repeat (first | apply Kd.N_alloc | apply Kd.N_drewN | apply Kd.N_drew)); exact HO_10.out)); (case aS => exact (below_size (by repeat (first | (with_reducible first | exact HB.out | apply below_alloc | apply pw_below_drewN | apply below_drew1 | refine below_set ?_ GE680.out | refine below_set ?_ GE691.out | refine below_set ?_ GE701.out) | exact HB.out)))); (case aL => have := LMc27.out; omega); intro v712 w41 ho hb hg hat; rw [← Ny711.out] at ho; have n0_ := Aside0.mk (Kd.R_over' (by (with_reducible repeat (first | apply Kd.R_alloc | apply Kd.R_drewN | apply Kd.R_drew)); exact HO_36.out) (Kd.N_typed (by (with_reducible repeat (first | apply Kd.N_alloc | apply Kd.N_drewN | apply Kd.N_drew)); exact HO_10.out)) (by decide) hg); have n1_ := Aside0.mk (Kd.R_over' (by (with_reducible repeat (first | apply Kd.R_alloc | apply Kd.R_drewN | apply Kd.R_drew)); exact HO_692000.out) (Kd.N_typed (by (with_reducible repeat (first | apply Kd.N_alloc | apply Kd.N_drewN | apply Kd.N_drew)); exact HO_10.out)) (by decide) hg); have n2_ := Aside0.mk (blk_grown (g := gb680) (o := .cells #[.int .i64 a0_0, .int .i64 a0_1, .int .i64 a0_2, .int .u64 a0_3, .int .u64 a0_4, .int .u64 a0_5] 24 (0, 0)) (by (with_reducible repeat (first | refine blk_drewN ?_ _ | refine blk_drew ?_ | refine blk_alloc ?_ _)); exact BK680.out) hg (Kd.N_ne HO_10.out BK680.out (by decide))); have n3_ := Aside0.mk (blk_grown (g := gb691) (o := .cells #[.slice (some ad700) t683.length co14, .int .u64 t686, .int .u64 t687, .int .i64 t688, .int .i64 t689] 61 (0, 0)) (by (with_reducible repeat (first | refine blk_drewN ?_ _ | refine blk_drew ?_ | refine blk_alloc ?_ _)); exact BK691.out) hg (Kd.N_ne HO_10.out BK691.out (by decide))); have n4_ := Aside0.mk (blk_grown (g := gb701) (o := .cells #[.int .u64 ((rd_T49 t683 x38_2).f0), .int .u64 ((rd_T49 t683 x38_2).f1)] 49 (0, 0)) (by (with_reducible repeat (first | refine blk_drewN ?_ _ | refine blk_drew ?_ | refine blk_alloc ?_ _)); exact BK701.out) hg (Kd.N_ne HO_10.out BK701.out (by decide))); have n5_ := Aside0.mk (Kd.V_afterv (ok := (fun k_ => some k_ ≠ (.slice (some ad700) t683.length co14 : Value).ownBlock ∧ some k_ ≠ (.slice (some ad700) t683.length co14 : Value).ownBlock ∧ k_ ≠ gb680 ∧ k_ ≠ gb691 ∧ k_ ≠ gb701)) (by (with_reducible repeat (first | apply Kd.V_alloc | apply Kd.V_drewN | apply Kd.V_drew)); exact Kd.V_mono HO710.out (fun _ hk => ⟨⟨hk.2.1, ⟨hk.2.2.1, ⟨hk.2.2.2.1, ⟨hk.2.2.2.2.1, hk.2.2.2.2.2⟩⟩⟩⟩, hk.1⟩)) hg hat); have n6_ := Aside0.mk (hb); have n7_ := Aside0.mk (ho); clear HO_36; clear HO_692000; clear BK680; clear BK691; clear BK701; clear HO710; clear HB; clear HO_10; have HO_36 := n0_; have HO_692000 := n1_; have BK680 := n2_; have BK691 := n3_; have BK701 := n4_; have HO710 := n5_; have HB := n6_; have HO713 := n7_; clear n0_ n1_ n2_ n3_ n4_ n5_ n6_ n7_; clear ho hb hg hat))
                            go_roundg k2
                            case measure => have := HJ5.out; have := HK2.out; omega
                            case rel => exact ⟨(y711), (wrap64 (x38_2 + 1)), (by first | rfl | (simp; done) | (simp [*]; done)), H', ⟨by have := HJ5.out; have := HK2.out; omega⟩, ⟨by (with_reducible repeat (first | apply Kd.N_alloc | apply Kd.N_drewN | apply Kd.N_drew)); exact Kd.N_mono HO713.out (fun _ hk => ⟨hk.1, ⟨hk.2.1, ⟨hk.2.2.1, hk.2.2.2.1⟩⟩⟩)⟩, ⟨by (with_reducible repeat (first | apply Kd.R_alloc | apply Kd.R_drewN | apply Kd.R_drew)); exact Kd.R_mono HO_36.out (fun _ hk => trivial)⟩, ⟨by (with_reducible repeat (first | apply Kd.R_alloc | apply Kd.R_drewN | apply Kd.R_drew)); exact Kd.R_mono HO_692000.out (fun _ hk => trivial)⟩, ⟨by (with_reducible repeat (first | refine blk_drewN ?_ _ | refine blk_drew ?_ | refine blk_alloc ?_ _)); exact BK680.out⟩, ⟨by (with_reducible repeat (first | refine blk_drewN ?_ _ | refine blk_drew ?_ | refine blk_alloc ?_ _)); exact BK691.out⟩, ⟨by repeat (first | (with_reducible first | exact HB.out | apply below_alloc | apply pw_below_drewN | apply below_drew1 | refine below_set ?_ GE680.out | refine below_set ?_ GE691.out | refine below_set ?_ GE701.out) | exact HB.out)⟩⟩
                          · rw [if_neg c27] at H
                            exact absurd H (by simp)
                  · rw [if_neg c19] at H
                    exact absurd H (by simp)
                · rw [if_neg c18] at H
                  exact absurd H (by simp)
              · rw [if_neg c17] at H
                have c17b0 : decide (x38_2 < (t683.length : Int)) = false := decide_eq_false c17
                clear c17
                replace H := Option.bind_eq_some_iff.mp H
                obtain ⟨⟨t692, t695⟩, A430, H⟩ := H
                replace H : (if t690 = true then (if t695 = true then ((spec_Path.f k2 a0_0 a0_1 a0_2 a0_3 a0_4 a0_5 l1 a2).bind fun t696 => ((spec_Same.f k2 t692 t696).bind fun t699 => (some t699))) else (none)) else (none)) = some r := H
                have A43 := Aside0.mk A430
                clear A430
                by_cases c44 : t690 = true
                · subst c44
                  have H1 : (if t695 = true then ((spec_Path.f k2 a0_0 a0_1 a0_2 a0_3 a0_4 a0_5 l1 a2).bind fun t696 => ((spec_Same.f k2 t692 t696).bind fun t699 => (some t699))) else (none)) = some r := by rw [if_pos rfl] at H; exact H
                  clear H
                  have H := H1
                  clear H1
                  by_cases c45 : t695 = true
                  · subst c45
                    have H1 : ((spec_Path.f k2 a0_0 a0_1 a0_2 a0_3 a0_4 a0_5 l1 a2).bind fun t696 => ((spec_Same.f k2 t692 t696).bind fun t699 => (some t699))) = some r := by rw [if_pos rfl] at H; exact H
                    clear H
                    have H := H1
                    clear H1
                    replace H := Option.bind_eq_some_iff.mp H
                    obtain ⟨t696, A460, H⟩ := H
                    replace H : ((spec_Same.f k2 t692 t696).bind fun t699 => (some t699)) = some r := H
                    have A46 := Aside0.mk A460
                    clear A460
                    replace H := Option.bind_eq_some_iff.mp H
                    obtain ⟨t699, A470, H⟩ := H
                    replace H : (some t699) = some r := H
                    have A47 := Aside0.mk A470
                    clear A470
                    obtain rfl := Option.some.inj H
                    have hnb48 := NB680_691.out
                    have hnc48 := NB691_680.out
                    have hcz49_0 : wr.cell? ⟨gb680, 0, none⟩ = some (.int .i64 a0_0) := (blk_cell BK680.out 0).trans rfl
                    have hcz49_1 : wr.cell? ⟨gb680, 1, none⟩ = some (.int .i64 a0_1) := (blk_cell BK680.out 1).trans rfl
                    have hcz49_2 : wr.cell? ⟨gb680, 2, none⟩ = some (.int .i64 a0_2) := (blk_cell BK680.out 2).trans rfl
                    have hcz49_3 : wr.cell? ⟨gb680, 3, none⟩ = some (.int .u64 a0_3) := (blk_cell BK680.out 3).trans rfl
                    have hcz49_4 : wr.cell? ⟨gb680, 4, none⟩ = some (.int .u64 a0_4) := (blk_cell BK680.out 4).trans rfl
                    have hcz49_5 : wr.cell? ⟨gb680, 5, none⟩ = some (.int .u64 a0_5) := (blk_cell BK680.out 5).trans rfl
                    have hfz49_0 := blk_frozen BK680.out 0
                    have hfz49_1 := blk_frozen BK680.out 1
                    have hfz49_2 := blk_frozen BK680.out 2
                    have hfz49_3 := blk_frozen BK680.out 3
                    have hfz49_4 := blk_frozen BK680.out 4
                    have hfz49_5 := blk_frozen BK680.out 5
                    obtain ⟨Ao50, co50, eo50⟩ := Kd.N_slice HO_10.out
                    subst eo50
                    go_wp2_with (first | ((with_reducible refine gate_callee (f := 33) rfl ?_); refine goesL_ (some 74) rfl rfl Tryd.func33 (by kernel_rfl) rfl #[.agg #[.int .i64 a0_0, .int .i64 a0_1, .int .i64 a0_2, .int .u64 a0_3, .int .u64 a0_4, .int .u64 a0_5], .int .u64 a2, .int .u64 (IntKind.u64.wrap ((l1.length : Int))), .slice Ao50 x10_2.length co50] rfl (by (try simp only [List.map_toArray, List.map_cons, List.map_nil]); first | done | rfl | (simp only [List.length_drop, List.length_take]; rfl)) ?_; (with_reducible refine (impl_InclusionHashes.calls k2 a0_0 a0_1 a0_2 a0_3 a0_4 a0_5 a2 (IntKind.u64.wrap ((l1.length : Int))) _ _ x10_2 t692 true _ ?side3 ?side1 ?side2 A43.out).mono ?_); (case side1 => repeat (first | exact (Kd.N_reads' HO_10.out).2.2 | (with_reducible refine Kd.C_alloc ?_ _) | (with_reducible refine Kd.C_drewN ?_ _) | (with_reducible refine Kd.C_drew ?_))); (case side2 => exact (Kd.N_reads' HO_10.out).2.1); (case side3 => exact Glob.below hG (by repeat (first | (with_reducible first | exact HB.out | apply below_alloc | apply pw_below_drewN | apply below_drew1 | refine below_set ?_ GE680.out | refine below_set ?_ GE691.out) | exact HB.out))); rintro e w51 ⟨v693, rfl, ho0, hb⟩; refine ⟨_, rfl, ?_⟩; have n0_ := Aside0.mk (Kd.N_elder' (by (with_reducible repeat (first | apply Kd.N_alloc | apply Kd.N_drewN | apply Kd.N_drew)); exact HO_10.out) (Kd.S_base ho0) hb); have n1_ := Aside0.mk (Kd.R_below (by (with_reducible repeat (first | apply Kd.R_alloc | apply Kd.R_drewN | apply Kd.R_drew)); exact HO_36.out) hb); have n2_ := Aside0.mk (Kd.R_below (by (with_reducible repeat (first | apply Kd.R_alloc | apply Kd.R_drewN | apply Kd.R_drew)); exact HO_692000.out) hb); have n3_ := Aside0.mk (Kd.N_lower (Kd.N_mono (ok' := fun k_ => some k_ ≠ (.slice Ao50 x10_2.length co50 : Value).ownBlock ∧ some k_ ≠ (.slice Ao14 t683.length co14 : Value).ownBlock ∧ some k_ ≠ (.slice Ao14 t683.length co14 : Value).ownBlock ∧ k_ ≠ gb680 ∧ k_ ≠ gb691) (Kd.S_N (Kd.S_bound ho0)) (fun k_ hk_ => ⟨(Kd.fresh' (Kd.N_lt (by (with_reducible repeat (first | apply Kd.N_alloc | apply Kd.N_drewN | apply Kd.N_drew)); exact HO_10.out)) k_ hk_.2.1), (Kd.fresh' (Kd.R_lt (by (with_reducible repeat (first | apply Kd.R_alloc | apply Kd.R_drewN | apply Kd.R_drew)); exact HO_36.out)) k_ hk_.2.1), (Kd.fresh' (Kd.R_lt (by (with_reducible repeat (first | apply Kd.R_alloc | apply Kd.R_drewN | apply Kd.R_drew)); exact HO_692000.out)) k_ hk_.2.1), (Kd.freshB (g := gb680) (o := .cells #[.int .i64 a0_0, .int .i64 a0_1, .int .i64 a0_2, .int .u64 a0_3, .int .u64 a0_4, .int .u64 a0_5] 24 (0, 0)) (by (with_reducible repeat (first | refine blk_drewN ?_ _ | refine blk_drew ?_ | refine blk_alloc ?_ _)); exact BK680.out) k_ hk_.2.1), (Kd.freshB (g := gb691) (o := .cells #[.slice Ao14 t683.length co14, .int .u64 t686, .int .u64 t687, .int .i64 t688, .int .i64 t689] 61 (0, 0)) (by (with_reducible repeat (first | refine blk_drewN ?_ _ | refine blk_drew ?_ | refine blk_alloc ?_ _)); exact BK691.out) k_ hk_.2.1)⟩)) (below_size (by repeat (first | (with_reducible first | exact HB.out | apply below_alloc | apply pw_below_drewN | apply below_drew1 | refine below_set ?_ GE680.out | refine below_set ?_ GE691.out) | exact HB.out)))); have n4_ := Aside0.mk (blk_below (g := gb680) (o := .cells #[.int .i64 a0_0, .int .i64 a0_1, .int .i64 a0_2, .int .u64 a0_3, .int .u64 a0_4, .int .u64 a0_5] 24 (0, 0)) (by (with_reducible repeat (first | refine blk_drewN ?_ _ | refine blk_drew ?_ | refine blk_alloc ?_ _)); exact BK680.out) hb); have n5_ := Aside0.mk (blk_below (g := gb691) (o := .cells #[.slice Ao14 t683.length co14, .int .u64 t686, .int .u64 t687, .int .i64 t688, .int .i64 t689] 61 (0, 0)) (by (with_reducible repeat (first | refine blk_drewN ?_ _ | refine blk_drew ?_ | refine blk_alloc ?_ _)); exact BK691.out) hb); have n6_ := Aside0.mk (below_step (by repeat (first | (with_reducible first | exact HB.out | apply below_alloc | apply pw_below_drewN | apply below_drew1 | refine below_set ?_ GE680.out | refine below_set ?_ GE691.out) | exact HB.out)) hb); clear HO_10; clear HO_36; clear HO_692000; clear BK680; clear BK691; clear HB; have HO_10 := n0_; have HO_36 := n1_; have HO_692000 := n2_; have HO694 := n3_; have BK680 := n4_; have BK691 := n5_; have HB := n6_; clear n0_ n1_ n2_ n3_ n4_ n5_ n6_; (try clear hb); (try clear hb2); (try clear hk); (try clear hi); (try clear ho0); have hcz52_0 : w51.cell? ⟨gb680, 0, none⟩ = some (.int .i64 a0_0) := (blk_cell BK680.out 0).trans rfl; have hcz52_1 : w51.cell? ⟨gb680, 1, none⟩ = some (.int .i64 a0_1) := (blk_cell BK680.out 1).trans rfl; have hcz52_2 : w51.cell? ⟨gb680, 2, none⟩ = some (.int .i64 a0_2) := (blk_cell BK680.out 2).trans rfl; have hcz52_3 : w51.cell? ⟨gb680, 3, none⟩ = some (.int .u64 a0_3) := (blk_cell BK680.out 3).trans rfl; have hcz52_4 : w51.cell? ⟨gb680, 4, none⟩ = some (.int .u64 a0_4) := (blk_cell BK680.out 4).trans rfl; have hcz52_5 : w51.cell? ⟨gb680, 5, none⟩ = some (.int .u64 a0_5) := (blk_cell BK680.out 5).trans rfl; have hfz52_0 := blk_frozen BK680.out 0; have hfz52_1 := blk_frozen BK680.out 1; have hfz52_2 := blk_frozen BK680.out 2; have hfz52_3 := blk_frozen BK680.out 3; have hfz52_4 := blk_frozen BK680.out 4; have hfz52_5 := blk_frozen BK680.out 5) | (go_at_call 34; (with_reducible refine (spec_Path.calls k2 a0_0 a0_1 a0_2 a0_3 a0_4 a0_5 (fun k_ => k_ < w.heap.size) _ _ l1 a2 t696 _ ?side1 A46.out).mono ?_); (case side1 => exact Kd.V_mk HC1.out (Kd.F_below (Kd.C_F (Kd.heap_slice 5 (Kd.heap_int .u8)) HR1.out) (by repeat (first | (with_reducible first | exact HB.out | apply below_alloc | apply pw_below_drewN | apply below_drew1 | refine below_set ?_ GE680.out | refine below_set ?_ GE691.out) | exact HB.out)))); rintro e w53 ⟨v697, rfl, ho0, hb⟩; have n0_ := Aside0.mk (Kd.N_elder' (by (with_reducible repeat (first | apply Kd.N_alloc | apply Kd.N_drewN | apply Kd.N_drew)); exact HO_10.out) (Kd.N_base ho0) hb); have n1_ := Aside0.mk (Kd.R_below (by (with_reducible repeat (first | apply Kd.R_alloc | apply Kd.R_drewN | apply Kd.R_drew)); exact HO_36.out) hb); have n2_ := Aside0.mk (Kd.R_below (by (with_reducible repeat (first | apply Kd.R_alloc | apply Kd.R_drewN | apply Kd.R_drew)); exact HO_692000.out) hb); have n3_ := Aside0.mk (Kd.N_elder' (by (with_reducible repeat (first | apply Kd.N_alloc | apply Kd.N_drewN | apply Kd.N_drew)); exact HO694.out) (Kd.N_base ho0) hb); have n4_ := Aside0.mk (Kd.N_lower (Kd.N_mono (ok' := fun k_ => some k_ ≠ (.slice Ao50 x10_2.length co50 : Value).ownBlock ∧ some k_ ≠ (.slice Ao14 t683.length co14 : Value).ownBlock ∧ some k_ ≠ (.slice Ao14 t683.length co14 : Value).ownBlock ∧ some k_ ≠ (v693 : Value).ownBlock ∧ k_ ≠ gb680 ∧ k_ ≠ gb691) ho0 (fun k_ hk_ => ⟨Or.elim hk_ (fun hs_ => fun e_ => Nat.not_le.2 hs_ (Kd.N_base HO_10.out k_ e_.symm)) (fun hn_ => (Kd.fresh' (Kd.N_lt (by (with_reducible repeat (first | apply Kd.N_alloc | apply Kd.N_drewN | apply Kd.N_drew)); exact HO_10.out)) k_ hn_)), Or.elim hk_ (fun hs_ => fun e_ => Nat.not_le.2 hs_ (Kd.R_base HO_36.out k_ e_.symm)) (fun hn_ => (Kd.fresh' (Kd.R_lt (by (with_reducible repeat (first | apply Kd.R_alloc | apply Kd.R_drewN | apply Kd.R_drew)); exact HO_36.out)) k_ hn_)), Or.elim hk_ (fun hs_ => fun e_ => Nat.not_le.2 hs_ (Kd.R_base HO_692000.out k_ e_.symm)) (fun hn_ => (Kd.fresh' (Kd.R_lt (by (with_reducible repeat (first | apply Kd.R_alloc | apply Kd.R_drewN | apply Kd.R_drew)); exact HO_692000.out)) k_ hn_)), Or.elim hk_ (fun hs_ => fun e_ => Nat.not_le.2 hs_ (Kd.N_base HO694.out k_ e_.symm)) (fun hn_ => (Kd.fresh' (Kd.N_lt (by (with_reducible repeat (first | apply Kd.N_alloc | apply Kd.N_drewN | apply Kd.N_drew)); exact HO694.out)) k_ hn_)), Or.elim hk_ (fun hs_ => fun e_ => Nat.not_le.2 hs_ (by rw [e_]; exact GW680.out)) (fun hn_ => (Kd.freshB (g := gb680) (o := .cells #[.int .i64 a0_0, .int .i64 a0_1, .int .i64 a0_2, .int .u64 a0_3, .int .u64 a0_4, .int .u64 a0_5] 24 (0, 0)) (by (with_reducible repeat (first | refine blk_drewN ?_ _ | refine blk_drew ?_ | refine blk_alloc ?_ _)); exact BK680.out) k_ hn_)), Or.elim hk_ (fun hs_ => fun e_ => Nat.not_le.2 hs_ (by rw [e_]; exact GW691.out)) (fun hn_ => (Kd.freshB (g := gb691) (o := .cells #[.slice Ao14 t683.length co14, .int .u64 t686, .int .u64 t687, .int .i64 t688, .int .i64 t689] 61 (0, 0)) (by (with_reducible repeat (first | refine blk_drewN ?_ _ | refine blk_drew ?_ | refine blk_alloc ?_ _)); exact BK691.out) k_ hn_))⟩)) (below_size (by repeat (first | (with_reducible first | exact HB.out | apply below_alloc | apply pw_below_drewN | apply below_drew1 | refine below_set ?_ GE680.out | refine below_set ?_ GE691.out) | exact HB.out)))); have n5_ := Aside0.mk (blk_below (g := gb680) (o := .cells #[.int .i64 a0_0, .int .i64 a0_1, .int .i64 a0_2, .int .u64 a0_3, .int .u64 a0_4, .int .u64 a0_5] 24 (0, 0)) (by (with_reducible repeat (first | refine blk_drewN ?_ _ | refine blk_drew ?_ | refine blk_alloc ?_ _)); exact BK680.out) hb); have n6_ := Aside0.mk (blk_below (g := gb691) (o := .cells #[.slice Ao14 t683.length co14, .int .u64 t686, .int .u64 t687, .int .i64 t688, .int .i64 t689] 61 (0, 0)) (by (with_reducible repeat (first | refine blk_drewN ?_ _ | refine blk_drew ?_ | refine blk_alloc ?_ _)); exact BK691.out) hb); have n7_ := Aside0.mk (below_step (by repeat (first | (with_reducible first | exact HB.out | apply below_alloc | apply pw_below_drewN | apply below_drew1 | refine below_set ?_ GE680.out | refine below_set ?_ GE691.out) | exact HB.out)) hb); clear HO_10; clear HO_36; clear HO_692000; clear HO694; clear BK680; clear BK691; clear HB; have HO_10 := n0_; have HO_36 := n1_; have HO_692000 := n2_; have HO694 := n3_; have HO698 := n4_; have BK680 := n5_; have BK691 := n6_; have HB := n7_; clear n0_ n1_ n2_ n3_ n4_ n5_ n6_ n7_; (try clear hb); (try clear hb2); (try clear hk); (try clear hi); (try clear ho0); obtain ⟨Ao54, co54, eo54⟩ := Kd.N_slice HO694.out; subst eo54; obtain ⟨Ao55, co55, eo55⟩ := Kd.N_slice HO698.out; subst eo55) | (go_at_call 29; (with_reducible refine (spec_Same.calls k2 _ _ t692 _ _ t696 t699 _ ?side1 ?side2 ?side3 ?side4 A47.out).mono ?_); (case side1 => repeat (first | exact (Kd.N_reads' HO694.out).2.2 | (with_reducible refine Kd.C_alloc ?_ _) | (with_reducible refine Kd.C_drewN ?_ _) | (with_reducible refine Kd.C_drew ?_))); (case side2 => exact (Kd.N_reads' HO694.out).2.1); (case side3 => repeat (first | exact (Kd.N_reads' HO698.out).2.2 | (with_reducible refine Kd.C_alloc ?_ _) | (with_reducible refine Kd.C_drewN ?_ _) | (with_reducible refine Kd.C_drew ?_))); (case side4 => exact (Kd.N_reads' HO698.out).2.1); rintro e w' ⟨rfl, ⟨nd, rfl⟩⟩))
                    go_ret
                    exact ⟨by first | rfl | (simp [errW_none, errW_some] <;> rfl) | (simp [*, errW_none, errW_some] <;> rfl), by repeat (first | (with_reducible first | exact HB.out | apply below_alloc | apply pw_below_drewN | apply below_drew1 | refine below_set ?_ GE680.out | refine below_set ?_ GE691.out) | exact HB.out)⟩
                  · replace c45 := Bool.eq_false_iff.mpr c45
                    subst c45
                    have H1 : (none) = some r := by rw [if_neg (show ¬ (false = true) by decide)] at H; exact H
                    clear H
                    have H := H1
                    clear H1
                    exact absurd H (by simp)
                · replace c44 := Bool.eq_false_iff.mpr c44
                  subst c44
                  have H1 : (none) = some r := by rw [if_neg (show ¬ (false = true) by decide)] at H; exact H
                  clear H
                  have H := H1
                  clear H1
                  exact absurd H (by simp)
  · replace c5 := Bool.eq_false_iff.mpr c5
    subst c5
    have H1 : (some true) = some r := by rw [if_neg (show ¬ (false = true) by decide)] at H; exact H
    clear H
    have H := H1
    clear H1
    obtain rfl := Option.some.inj H
    go_enter Tryd.func7, Tryd.ntmps7
    go_wp2_with (first | ((with_reducible refine gate_dst (N := 3) rfl ?_); refine box_event ?hg (N := 3) ?hd (cs := #[.int .i64 a0_0, .int .i64 a0_1, .int .i64 a0_2, .int .u64 a0_3, .int .u64 a0_4, .int .u64 a0_5]) (t := 24) ?hr ?_; (case hd => rfl); (case hg => rfl); (case hr => first | (go_simp; done) | (go_simp; rfl)); intro gb680 hg w56 hbox hb; have n0_ := Aside0.mk (below_step (by repeat (first | (with_reducible first | exact HB.out | apply below_alloc | apply pw_below_drewN | apply below_drew1) | exact HB.out)) hb); have n1_ := Aside0.mk (hbox); have n2_ := Aside0.mk ((by rw [hg]; exact (below_size (by repeat (first | (with_reducible first | exact HB.out | apply below_alloc | apply pw_below_drewN | apply below_drew1) | exact HB.out))) : w.heap.size ≤ gb680)); have n3_ := Aside0.mk ((by rw [hg]; exact (below_size (by repeat (first | (with_reducible first | exact HB.out | apply below_alloc | apply pw_below_drewN | apply below_drew1) | exact HB.out))) : w.heap.size ≤ gb680)); clear HB; have HB := n0_; have BK680 := n1_; have GW680 := n2_; have GE680 := n3_; clear n0_ n1_ n2_ n3_; clear hb hbox hg) | ((with_reducible refine gate_callee (f := 12) rfl ?_); refine goesL_ (some 16) rfl rfl Tryd.func12 (by kernel_rfl) rfl #[.slice A1 l1.length c1] rfl (by (try simp only [List.map_toArray, List.map_cons, List.map_nil]); first | done | rfl | (simp only [List.length_drop, List.length_take]; rfl)) ?_; (with_reducible refine (laws_zzFits2.calls k _ _ l1 false _ ?side1 ?side2 A4.out).mono ?_); (case side1 => repeat (first | exact (Kd.C_below HR1.out HB.out) | (with_reducible refine Kd.C_alloc ?_ _) | (with_reducible refine Kd.C_drewN ?_ _) | (with_reducible refine Kd.C_drew ?_))); (case side2 => exact HC1.out); rintro e w' ⟨rfl, ⟨nd, rfl⟩⟩; refine ⟨_, rfl, ?_⟩))
    go_ret
    exact ⟨by first | rfl | (simp [errW_none, errW_some] <;> rfl) | (simp [*, errW_none, errW_some] <;> rfl), by repeat (first | (with_reducible first | exact HB.out | apply below_alloc | apply pw_below_drewN | apply below_drew1 | refine below_set ?_ GE680.out) | exact HB.out)⟩
end Go.Proofs.YtielnphmcaecdaaDoor.PAll
