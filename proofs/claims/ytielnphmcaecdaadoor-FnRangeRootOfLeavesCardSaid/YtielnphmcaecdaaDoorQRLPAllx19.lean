-- Written by a program of this session (wip/tools)
import Derived.Test.YtielnphmcaecdaaDoorQRLPAllx0
import Derived.Test.YtielnphmcaecdaaDoorQRLPAllx5
import Derived.Test.YtielnphmcaecdaaDoorQRLPAllx10
import Derived.Test.YtielnphmcaecdaaDoorQRLExtRange
namespace Go.Proofs.YtielnphmcaecdaaDoor.PAll
open Go.RowKit Go.Proofs.YtielnphmcaecdaaDoorW.PrintWords Go.Proofs.YtielnphmcaecdaaDoorW.PrintLast Go.Proofs.YtielnphmcaecdaaDoorW.PrintMore
attribute [local go_sem] max2_int min2_int max_two min_two max_three min_three max_four min_four   -- for this text's walks alone
set_option linter.unusedVariables false
set_option linter.unusedSimpArgs false
mutual
def laws_FnRangeRootOfLeaves.j0 : Nat → List (List Int) → Bool → Int → Int → Int → Int → Int → Int → Option (Bool)
  | 0, _, _, _, _, _, _, _, _ => none
  | k + 1, x1, x24, x606000, x606001, x606002, x606003, x606004, x606005 => if x24 = true then (some true) else ((impl_Append.f k x606000 x606001 x606002 x606003 x606004 x606005 0 0 ([] : List (List Int)) x1).bind fun bt608 => ((impl_RootHash.f k x606000 x606001 x606002 x606003 x606004 x606005 bt608.1 bt608.2.1 bt608.2.2.1).bind fun bt618 => (if bt608.2.2.2.2 = true then (if bt618.2.2 = true then ((spec_Root.f k x606000 x606001 x606002 x606003 x606004 x606005 x1).bind fun t625 => ((spec_SameText.f bt618.1 t625).bind fun t628 => (laws_FnRangeRootOfLeaves.j1 k x1 bt618.2.1 (!t628) x606000 x606001 x606002 x606003 x606004 x606005 bt608.1 bt608.2.1 bt608.2.2.1))) else (laws_FnRangeRootOfLeaves.j1 k x1 bt618.2.1 true x606000 x606001 x606002 x606003 x606004 x606005 bt608.1 bt608.2.1 bt608.2.2.1)) else (laws_FnRangeRootOfLeaves.j1 k x1 bt618.2.1 true x606000 x606001 x606002 x606003 x606004 x606005 bt608.1 bt608.2.1 bt608.2.2.1))))
def laws_FnRangeRootOfLeaves.j1 : Nat → List (List Int) → List (S51) → Bool → Int → Int → Int → Int → Int → Int → Int → Int → List (List Int) → Option (Bool)
  | 0, _, _, _, _, _, _, _, _, _, _, _, _ => none
  | k + 1, x1, x9, x53, x606000, x606001, x606002, x606003, x606004, x606005, x618000, x618001, x618002 => if x53 = true then (none) else (laws_FnRangeRootOfLeaves.l0 k x1 x9 x9 (x9.length : Int) 0 x606000 x606001 x606002 x606003 x606004 x606005 x618000 x618001 x618002)
def laws_FnRangeRootOfLeaves.l0 : Nat → List (List Int) → List (S51) → List (S51) → Int → Int → Int → Int → Int → Int → Int → Int → Int → Int → List (List Int) → Option (Bool)
  | 0, _, _, _, _, _, _, _, _, _, _, _, _, _, _ => none
  | k + 1, x1, x9, x54, x55, x56, x606000, x606001, x606002, x606003, x606004, x606005, x618000, x618001, x618002 => if x56 < x55 then (if 0 ≤ x56 then (if x56 < (x54.length : Int) then ((spec_Leaves.f ((rd_T51 x54 x56).f0.f0) ((rd_T51 x54 x56).f0.f1)).bind fun bt631 => (if bt631.1 ≥ (IntKind.u64.wrap ((x1.length : Int))) then (none) else (if bt631.2 ≤ (IntKind.u64.wrap ((x1.length : Int))) then (none) else (if 0 ≤ bt631.1 then (if bt631.1 ≤ (x1.length : Int) then ((spec_Root.f k x606000 x606001 x606002 x606003 x606004 x606005 (x1.drop (bt631.1 : Int).toNat)).bind fun t638 => ((spec_SameText.f ((rd_T51 x54 x56).f1) t638).bind fun t641 => (if t641 = true then (laws_FnRangeRootOfLeaves.l0 k x1 x9 x54 x55 (wrap64 (x56 + 1)) x606000 x606001 x606002 x606003 x606004 x606005 x618000 x618001 x618002) else (none)))) else (none)) else (none))))) else (none)) else (none)) else (some ((x9.length : Int) == (wrap64 ((x618002.length : Int) - 1))))
end
def laws_FnRangeRootOfLeaves.f (k : Nat) (a0_0 : Int) (a0_1 : Int) (a0_2 : Int) (a0_3 : Int) (a0_4 : Int) (a0_5 : Int) (l1 : List (List Int)) : Option (Bool) := (laws_zzFits2.f k l1).bind fun t606 => (if t606 = true then ((laws_logSmall.f k l1).bind fun t607 => (if t607 = true then (laws_FnRangeRootOfLeaves.j0 k l1 ((l1.length : Int) == 0) a0_0 a0_1 a0_2 a0_3 a0_4 a0_5) else (laws_FnRangeRootOfLeaves.j0 k l1 true a0_0 a0_1 a0_2 a0_3 a0_4 a0_5))) else (some true))
theorem laws_FnRangeRootOfLeaves.mono_l : ∀ k, (∀ y0 y1 y2 y3 y4 y5 y6 y7, LeO (laws_FnRangeRootOfLeaves.j0 k y0 y1 y2 y3 y4 y5 y6 y7) (laws_FnRangeRootOfLeaves.j0 (k + 1) y0 y1 y2 y3 y4 y5 y6 y7)) ∧ (∀ y0 y1 y2 y3 y4 y5 y6 y7 y8 y9 y10 y11, LeO (laws_FnRangeRootOfLeaves.j1 k y0 y1 y2 y3 y4 y5 y6 y7 y8 y9 y10 y11) (laws_FnRangeRootOfLeaves.j1 (k + 1) y0 y1 y2 y3 y4 y5 y6 y7 y8 y9 y10 y11)) ∧ (∀ y0 y1 y2 y3 y4 y5 y6 y7 y8 y9 y10 y11 y12 y13, LeO (laws_FnRangeRootOfLeaves.l0 k y0 y1 y2 y3 y4 y5 y6 y7 y8 y9 y10 y11 y12 y13) (laws_FnRangeRootOfLeaves.l0 (k + 1) y0 y1 y2 y3 y4 y5 y6 y7 y8 y9 y10 y11 y12 y13))
  | 0 => ⟨fun _ _ _ _ _ _ _ _ r h => by simp [laws_FnRangeRootOfLeaves.j0] at h, fun _ _ _ _ _ _ _ _ _ _ _ _ r h => by simp [laws_FnRangeRootOfLeaves.j1] at h, fun _ _ _ _ _ _ _ _ _ _ _ _ _ _ r h => by simp [laws_FnRangeRootOfLeaves.l0] at h⟩
  | k + 1 => by
    obtain ⟨ih0, ih1, ih2⟩ := laws_FnRangeRootOfLeaves.mono_l k
    refine ⟨?_, ?_, ?_⟩
    · intro y0 y1 y2 y3 y4 y5 y6 y7
      unfold laws_FnRangeRootOfLeaves.j0
      repeat' first
      | (with_reducible exact ih0 _ _ _ _ _ _ _ _)
      | (with_reducible exact ih1 _ _ _ _ _ _ _ _ _ _ _ _)
      | (with_reducible exact ih2 _ _ _ _ _ _ _ _ _ _ _ _ _ _)
      | (with_reducible exact impl_Append.mono _ _ _ _ _ _ _ _ _ _ _)
      | (with_reducible exact impl_RootHash.mono _ _ _ _ _ _ _ _ _ _)
      | (with_reducible exact laws_logSmall.mono _ _)
      | (with_reducible exact laws_zzFits2.mono _ _)
      | (with_reducible exact spec_Root.mono _ _ _ _ _ _ _ _)
      | (with_reducible exact LeO.refl _)
      | (with_reducible exact LeO.none _)
      | (with_reducible refine LeO.ite ?_ ?_)
      | (with_reducible refine LeO.bind ?_ (fun _ => ?_))
      | exact ih0 _ _ _ _ _ _ _ _
      | exact ih1 _ _ _ _ _ _ _ _ _ _ _ _
      | exact ih2 _ _ _ _ _ _ _ _ _ _ _ _ _ _
      | exact impl_Append.mono _ _ _ _ _ _ _ _ _ _ _
      | exact impl_RootHash.mono _ _ _ _ _ _ _ _ _ _
      | exact laws_logSmall.mono _ _
      | exact laws_zzFits2.mono _ _
      | exact spec_Root.mono _ _ _ _ _ _ _ _
      | exact LeO.none _
      | refine LeO.ite ?_ ?_
      | refine LeO.bind ?_ (fun _ => ?_)
    · intro y0 y1 y2 y3 y4 y5 y6 y7 y8 y9 y10 y11
      unfold laws_FnRangeRootOfLeaves.j1
      repeat' first
      | (with_reducible exact ih0 _ _ _ _ _ _ _ _)
      | (with_reducible exact ih1 _ _ _ _ _ _ _ _ _ _ _ _)
      | (with_reducible exact ih2 _ _ _ _ _ _ _ _ _ _ _ _ _ _)
      | (with_reducible exact impl_Append.mono _ _ _ _ _ _ _ _ _ _ _)
      | (with_reducible exact impl_RootHash.mono _ _ _ _ _ _ _ _ _ _)
      | (with_reducible exact laws_logSmall.mono _ _)
      | (with_reducible exact laws_zzFits2.mono _ _)
      | (with_reducible exact spec_Root.mono _ _ _ _ _ _ _ _)
      | (with_reducible exact LeO.refl _)
      | (with_reducible exact LeO.none _)
      | (with_reducible refine LeO.ite ?_ ?_)
      | (with_reducible refine LeO.bind ?_ (fun _ => ?_))
      | exact ih0 _ _ _ _ _ _ _ _
      | exact ih1 _ _ _ _ _ _ _ _ _ _ _ _
      | exact ih2 _ _ _ _ _ _ _ _ _ _ _ _ _ _
      | exact impl_Append.mono _ _ _ _ _ _ _ _ _ _ _
      | exact impl_RootHash.mono _ _ _ _ _ _ _ _ _ _
      | exact laws_logSmall.mono _ _
      | exact laws_zzFits2.mono _ _
      | exact spec_Root.mono _ _ _ _ _ _ _ _
      | exact LeO.none _
      | refine LeO.ite ?_ ?_
      | refine LeO.bind ?_ (fun _ => ?_)
    · intro y0 y1 y2 y3 y4 y5 y6 y7 y8 y9 y10 y11 y12 y13
      unfold laws_FnRangeRootOfLeaves.l0
      repeat' first
      | (with_reducible exact ih0 _ _ _ _ _ _ _ _)
      | (with_reducible exact ih1 _ _ _ _ _ _ _ _ _ _ _ _)
      | (with_reducible exact ih2 _ _ _ _ _ _ _ _ _ _ _ _ _ _)
      | (with_reducible exact impl_Append.mono _ _ _ _ _ _ _ _ _ _ _)
      | (with_reducible exact impl_RootHash.mono _ _ _ _ _ _ _ _ _ _)
      | (with_reducible exact laws_logSmall.mono _ _)
      | (with_reducible exact laws_zzFits2.mono _ _)
      | (with_reducible exact spec_Root.mono _ _ _ _ _ _ _ _)
      | (with_reducible exact LeO.refl _)
      | (with_reducible exact LeO.none _)
      | (with_reducible refine LeO.ite ?_ ?_)
      | (with_reducible refine LeO.bind ?_ (fun _ => ?_))
      | exact ih0 _ _ _ _ _ _ _ _
      | exact ih1 _ _ _ _ _ _ _ _ _ _ _ _
      | exact ih2 _ _ _ _ _ _ _ _ _ _ _ _ _ _
      | exact impl_Append.mono _ _ _ _ _ _ _ _ _ _ _
      | exact impl_RootHash.mono _ _ _ _ _ _ _ _ _ _
      | exact laws_logSmall.mono _ _
      | exact laws_zzFits2.mono _ _
      | exact spec_Root.mono _ _ _ _ _ _ _ _
      | exact LeO.none _
      | refine LeO.ite ?_ ?_
      | refine LeO.bind ?_ (fun _ => ?_)
theorem laws_FnRangeRootOfLeaves.mono : ∀ a0 a1 a2 a3 a4 a5 a6 k, LeO (laws_FnRangeRootOfLeaves.f k a0 a1 a2 a3 a4 a5 a6) (laws_FnRangeRootOfLeaves.f (k + 1) a0 a1 a2 a3 a4 a5 a6) := by
  intro a0 a1 a2 a3 a4 a5 a6 k
  obtain ⟨ih0, ih1, ih2⟩ := laws_FnRangeRootOfLeaves.mono_l k
  unfold laws_FnRangeRootOfLeaves.f
  repeat' first
      | (with_reducible exact ih0 _ _ _ _ _ _ _ _)
      | (with_reducible exact ih1 _ _ _ _ _ _ _ _ _ _ _ _)
      | (with_reducible exact ih2 _ _ _ _ _ _ _ _ _ _ _ _ _ _)
      | (with_reducible exact impl_Append.mono _ _ _ _ _ _ _ _ _ _ _)
      | (with_reducible exact impl_RootHash.mono _ _ _ _ _ _ _ _ _ _)
      | (with_reducible exact laws_logSmall.mono _ _)
      | (with_reducible exact laws_zzFits2.mono _ _)
      | (with_reducible exact spec_Root.mono _ _ _ _ _ _ _ _)
      | (with_reducible exact LeO.refl _)
      | (with_reducible exact LeO.none _)
      | (with_reducible refine LeO.ite ?_ ?_)
      | (with_reducible refine LeO.bind ?_ (fun _ => ?_))
      | exact ih0 _ _ _ _ _ _ _ _
      | exact ih1 _ _ _ _ _ _ _ _ _ _ _ _
      | exact ih2 _ _ _ _ _ _ _ _ _ _ _ _ _ _
      | exact impl_Append.mono _ _ _ _ _ _ _ _ _ _ _
      | exact impl_RootHash.mono _ _ _ _ _ _ _ _ _ _
      | exact laws_logSmall.mono _ _
      | exact laws_zzFits2.mono _ _
      | exact spec_Root.mono _ _ _ _ _ _ _ _
      | exact LeO.none _
      | refine LeO.ite ?_ ?_
      | refine LeO.bind ?_ (fun _ => ?_)
def laws_FnRangeRootOfLeaves.T13 : Bool × List (List Nat × List Nat) := (true, [([], []), ([0], [0]), ([], []), ([2], [2]), ([3], [3]), ([1, 4], [1, 4]), ([5], [5]), ([6], [6]), ([7, 6], [6, 7]), ([6], [6]), ([9, 6], [6, 9]), ([10, 6], [6, 10]), ([8, 11, 6], [6, 8, 11]), ([6, 12], [6, 12]), ([13, 6], [13]), ([14], [14]), ([15, 14], [14, 15]), ([14], [14]), ([14], [14]), ([14], [14]), ([19, 14], [14, 19]), ([18, 20, 14], [14, 18, 20]), ([17, 21, 14, 14], [14, 17, 21]), ([16, 22, 22, 14], [14, 16, 22]), ([23, 14], [14, 23]), ([14, 24], [14, 24])])
def laws_FnRangeRootOfLeaves.B13 : List Nat := [0, 1, 0, 4, 12, 31, 63, 127, 255, 127, 639, 1663, 4095, 8191, 16383, 32767, 65535, 32767, 32767, 32767, 557055, 1867775, 4095999, 8388607, 16777215, 33554431]
theorem laws_FnRangeRootOfLeaves.tab13 : rtab .any (opsOf Tryd.f5 13) = laws_FnRangeRootOfLeaves.T13 := by kernel_rfl
theorem laws_FnRangeRootOfLeaves.bits13 : waitsOk laws_FnRangeRootOfLeaves.T13.2 laws_FnRangeRootOfLeaves.B13 = true := by kernel_rfl
set_option maxHeartbeats 8000000 in
set_option maxRecDepth 100000 in
theorem laws_FnRangeRootOfLeaves.calls (k : Nat) (a0_0 : Int) (a0_1 : Int) (a0_2 : Int) (a0_3 : Int) (a0_4 : Int) (a0_5 : Int) (A1 : Option Addr) (c1 : Nat) (l1 : List (List Int)) (r : Bool) (w : World) (hG : Glob w) (hr1 : Kd.C (Kd.slice 5 (Kd.int .u8)) w A1 l1.length l1) (hc1 : l1.length ≤ c1) (h : laws_FnRangeRootOfLeaves.f k a0_0 a0_1 a0_2 a0_3 a0_4 a0_5 l1 = some r) :
    Calls Tryd.prog 5 #[.agg #[.int .i64 a0_0, .int .i64 a0_1, .int .i64 a0_2, .int .u64 a0_3, .int .u64 a0_4, .int .u64 a0_5], .slice A1 l1.length c1] w fun e w' => e = .returned (.bool r) ∧ Below w.heap.size w w' := by
  have hu24 := Tryd.underlying24
  have hu34 := Tryd.underlying34
  have hu51 := Tryd.underlying51
  have hu49 := Tryd.underlying49
  have hu53 := Tryd.underlying53
  have HR1 := Aside0.mk hr1
  have HC1 := Aside0.mk hc1
  clear hr1 hc1
  have HB := Aside0.mk (Below.refl w.heap.size w)
  have H : ((laws_zzFits2.f k l1).bind fun t606 => (if t606 = true then ((laws_logSmall.f k l1).bind fun t607 => (if t607 = true then (laws_FnRangeRootOfLeaves.j0 k l1 ((l1.length : Int) == 0) a0_0 a0_1 a0_2 a0_3 a0_4 a0_5) else (laws_FnRangeRootOfLeaves.j0 k l1 true a0_0 a0_1 a0_2 a0_3 a0_4 a0_5))) else (some true))) = some r := h
  clear h
  replace H := Option.bind_eq_some_iff.mp H
  obtain ⟨t606, A30, H⟩ := H
  replace H : (if t606 = true then ((laws_logSmall.f k l1).bind fun t607 => (if t607 = true then (laws_FnRangeRootOfLeaves.j0 k l1 ((l1.length : Int) == 0) a0_0 a0_1 a0_2 a0_3 a0_4 a0_5) else (laws_FnRangeRootOfLeaves.j0 k l1 true a0_0 a0_1 a0_2 a0_3 a0_4 a0_5))) else (some true)) = some r := H
  have A3 := Aside0.mk A30
  clear A30
  by_cases c4 : t606 = true
  · subst c4
    have H1 : ((laws_logSmall.f k l1).bind fun t607 => (if t607 = true then (laws_FnRangeRootOfLeaves.j0 k l1 ((l1.length : Int) == 0) a0_0 a0_1 a0_2 a0_3 a0_4 a0_5) else (laws_FnRangeRootOfLeaves.j0 k l1 true a0_0 a0_1 a0_2 a0_3 a0_4 a0_5))) = some r := by rw [if_pos rfl] at H; exact H
    clear H
    have H := H1
    clear H1
    have HC5 := Aside0.mk H
    clear H
    go_enter Tryd.func5, Tryd.ntmps5
    go_upto_region 3 with (first | ((with_reducible refine gate_dst (N := 2) rfl ?_); (try (refine gate_guard (by rfl) ?_; dsimp only)); refine box_event ?hg (N := 2) ?hd (cs := #[.int .i64 a0_0, .int .i64 a0_1, .int .i64 a0_2, .int .u64 a0_3, .int .u64 a0_4, .int .u64 a0_5]) (t := 24) ?hr ?_; (case hd => rfl); (case hg => rfl); (case hr => first | (go_simp; done) | (go_simp; rfl)); intro gb605 hg w6 hbox hb; have n0_ := Aside0.mk (below_step (by repeat (first | (with_reducible first | exact HB.out | apply below_alloc | apply pw_below_drewN | apply below_drew1) | exact HB.out)) hb); have n1_ := Aside0.mk (hbox); have n2_ := Aside0.mk ((by rw [hg]; exact (below_size (by repeat (first | (with_reducible first | exact HB.out | apply below_alloc | apply pw_below_drewN | apply below_drew1) | exact HB.out))) : w.heap.size ≤ gb605)); have n3_ := Aside0.mk ((by rw [hg]; exact (below_size (by repeat (first | (with_reducible first | exact HB.out | apply below_alloc | apply pw_below_drewN | apply below_drew1) | exact HB.out))) : w.heap.size ≤ gb605)); clear HB; have HB := n0_; have BK605 := n1_; have GW605 := n2_; have GE605 := n3_; clear n0_ n1_ n2_ n3_; clear hb hbox hg) | ((with_reducible refine gate_callee (f := 12) rfl ?_); refine goesL_ (some 15) rfl rfl Tryd.func12 (by kernel_rfl) rfl #[.slice A1 l1.length c1] rfl (by (try simp only [List.map_toArray, List.map_cons, List.map_nil]); first | done | rfl | (simp only [List.length_drop, List.length_take]; rfl)) ?_; (with_reducible refine (laws_zzFits2.calls k _ _ l1 true _ ?side1 ?side2 A3.out).mono ?_); (case side1 => repeat (first | exact (Kd.C_below HR1.out HB.out) | (with_reducible refine Kd.C_alloc ?_ _) | (with_reducible refine Kd.C_drewN ?_ _) | (with_reducible refine Kd.C_drew ?_))); (case side2 => exact HC1.out); rintro e w' ⟨rfl, ⟨nd, rfl⟩⟩; refine ⟨_, rfl, ?_⟩))
    (try simp only [Act.put, List.setIfInBounds_toArray, List.set_cons_zero, List.set_cons_succ])
    go_cut [24] (fun v24 wc => ∃ (kq : Nat) (x24_4 : Bool), v24 = .bool x24_4 ∧ Aside0 (laws_FnRangeRootOfLeaves.j0 kq l1 x24_4 a0_0 a0_1 a0_2 a0_3 a0_4 a0_5 = some r) ∧ Aside0 (kq ≤ k) ∧ Aside0 (wc.heap[gb605]? = some (.cells #[.int .i64 a0_0, .int .i64 a0_1, .int .i64 a0_2, .int .u64 a0_3, .int .u64 a0_4, .int .u64 a0_5] 24 (0, 0))) ∧ Aside0 (Below w.heap.size w wc))
    case first =>
      have H := HC5.out
      clear HC5
      replace H := Option.bind_eq_some_iff.mp H
      obtain ⟨t607, A70, H⟩ := H
      replace H : (if t607 = true then (laws_FnRangeRootOfLeaves.j0 k l1 ((l1.length : Int) == 0) a0_0 a0_1 a0_2 a0_3 a0_4 a0_5) else (laws_FnRangeRootOfLeaves.j0 k l1 true a0_0 a0_1 a0_2 a0_3 a0_4 a0_5)) = some r := H
      have A7 := Aside0.mk A70
      clear A70
      by_cases c8 : t607 = true
      · subst c8
        have H1 : (laws_FnRangeRootOfLeaves.j0 k l1 ((l1.length : Int) == 0) a0_0 a0_1 a0_2 a0_3 a0_4 a0_5) = some r := by rw [if_pos rfl] at H; exact H
        clear H
        have H := H1
        clear H1
        have H' := Aside0.mk H
        clear H
        go_wp2_with (first | ((with_reducible refine gate_callee (f := 13) rfl ?_); refine goesL_ (some 18) rfl rfl Tryd.func13 (by kernel_rfl) rfl #[.slice A1 l1.length c1] rfl (by (try simp only [List.map_toArray, List.map_cons, List.map_nil]); first | done | rfl | (simp only [List.length_drop, List.length_take]; rfl)) ?_; (with_reducible refine (laws_logSmall.calls k _ _ l1 true _ ?side1 ?side2 A7.out).mono ?_); (case side1 => repeat (first | exact (Kd.C_below HR1.out HB.out) | (with_reducible refine Kd.C_alloc ?_ _) | (with_reducible refine Kd.C_drewN ?_ _) | (with_reducible refine Kd.C_drew ?_))); (case side2 => exact HC1.out); rintro e w' ⟨rfl, ⟨nd, rfl⟩⟩; refine ⟨_, rfl, ?_⟩))
        go_meet
        case rel => exact ⟨_, (((l1.length : Int) == 0)), (by first | rfl | (simp; done) | (simp [*]; done)), H', ⟨by first | omega | exact Nat.le_refl _⟩, ⟨by (with_reducible repeat (first | refine blk_drewN ?_ _ | refine blk_drew ?_ | refine blk_alloc ?_ _)); exact BK605.out⟩, ⟨by repeat (first | (with_reducible first | exact HB.out | apply below_alloc | apply pw_below_drewN | apply below_drew1 | refine below_set ?_ GE605.out) | exact HB.out)⟩⟩
      · replace c8 := Bool.eq_false_iff.mpr c8
        subst c8
        have H1 : (laws_FnRangeRootOfLeaves.j0 k l1 true a0_0 a0_1 a0_2 a0_3 a0_4 a0_5) = some r := by rw [if_neg (show ¬ (false = true) by decide)] at H; exact H
        clear H
        have H := H1
        clear H1
        have H' := Aside0.mk H
        clear H
        go_wp2_with (first | ((with_reducible refine gate_callee (f := 13) rfl ?_); refine goesL_ (some 18) rfl rfl Tryd.func13 (by kernel_rfl) rfl #[.slice A1 l1.length c1] rfl (by (try simp only [List.map_toArray, List.map_cons, List.map_nil]); first | done | rfl | (simp only [List.length_drop, List.length_take]; rfl)) ?_; (with_reducible refine (laws_logSmall.calls k _ _ l1 false _ ?side1 ?side2 A7.out).mono ?_); (case side1 => repeat (first | exact (Kd.C_below HR1.out HB.out) | (with_reducible refine Kd.C_alloc ?_ _) | (with_reducible refine Kd.C_drewN ?_ _) | (with_reducible refine Kd.C_drew ?_))); (case side2 => exact HC1.out); rintro e w' ⟨rfl, ⟨nd, rfl⟩⟩; refine ⟨_, rfl, ?_⟩))
        go_meet
        case rel => exact ⟨_, (true), (by first | rfl | (simp; done) | (simp [*]; done)), H', ⟨by first | omega | exact Nat.le_refl _⟩, ⟨by (with_reducible repeat (first | refine blk_drewN ?_ _ | refine blk_drew ?_ | refine blk_alloc ?_ _)); exact BK605.out⟩, ⟨by repeat (first | (with_reducible first | exact HB.out | apply below_alloc | apply pw_below_drewN | apply below_drew1 | refine below_set ?_ GE605.out) | exact HB.out)⟩⟩
    case rest =>
      clear HC5
      try clear c1
      try clear p2
      try clear c4
      try clear c5
      try clear c8
      obtain ⟨kq, x24_4, rfl, HA, HJ4, BK605, HB⟩ := hcut
      cases kq with
      | zero => exact absurd HA.out (by simp [laws_FnRangeRootOfLeaves.j0])
      | succ kj4 =>
        have H := HA.out
        clear HA
        simp only [laws_FnRangeRootOfLeaves.j0] at H
        by_cases c9 : x24_4 = true
        · subst c9
          have H1 : (some true) = some r := by rw [if_pos rfl] at H; exact H
          clear H
          have H := H1
          clear H1
          obtain rfl := Option.some.inj H
          go_wp2
          go_ret
          exact ⟨by first | rfl | (simp [errW_none, errW_some] <;> rfl) | (simp [*, errW_none, errW_some] <;> rfl), by repeat (first | (with_reducible first | exact HB.out | apply below_alloc | apply pw_below_drewN | apply below_drew1 | refine below_set ?_ GE605.out) | exact HB.out)⟩
        · replace c9 := Bool.eq_false_iff.mpr c9
          subst c9
          have H1 : ((impl_Append.f kj4 a0_0 a0_1 a0_2 a0_3 a0_4 a0_5 0 0 ([] : List (List Int)) l1).bind fun bt608 => ((impl_RootHash.f kj4 a0_0 a0_1 a0_2 a0_3 a0_4 a0_5 bt608.1 bt608.2.1 bt608.2.2.1).bind fun bt618 => (if bt608.2.2.2.2 = true then (if bt618.2.2 = true then ((spec_Root.f kj4 a0_0 a0_1 a0_2 a0_3 a0_4 a0_5 l1).bind fun t625 => ((spec_SameText.f bt618.1 t625).bind fun t628 => (laws_FnRangeRootOfLeaves.j1 kj4 l1 bt618.2.1 (!t628) a0_0 a0_1 a0_2 a0_3 a0_4 a0_5 bt608.1 bt608.2.1 bt608.2.2.1))) else (laws_FnRangeRootOfLeaves.j1 kj4 l1 bt618.2.1 true a0_0 a0_1 a0_2 a0_3 a0_4 a0_5 bt608.1 bt608.2.1 bt608.2.2.1)) else (laws_FnRangeRootOfLeaves.j1 kj4 l1 bt618.2.1 true a0_0 a0_1 a0_2 a0_3 a0_4 a0_5 bt608.1 bt608.2.1 bt608.2.2.1)))) = some r := by rw [if_neg (show ¬ (false = true) by decide)] at H; exact H
          clear H
          have H := H1
          clear H1
          replace H := Option.bind_eq_some_iff.mp H
          obtain ⟨⟨t608, t609, t610, t613, t616⟩, A100, H⟩ := H
          replace H : ((impl_RootHash.f kj4 a0_0 a0_1 a0_2 a0_3 a0_4 a0_5 t608 t609 t610).bind fun bt618 => (if t616 = true then (if bt618.2.2 = true then ((spec_Root.f kj4 a0_0 a0_1 a0_2 a0_3 a0_4 a0_5 l1).bind fun t625 => ((spec_SameText.f bt618.1 t625).bind fun t628 => (laws_FnRangeRootOfLeaves.j1 kj4 l1 bt618.2.1 (!t628) a0_0 a0_1 a0_2 a0_3 a0_4 a0_5 t608 t609 t610))) else (laws_FnRangeRootOfLeaves.j1 kj4 l1 bt618.2.1 true a0_0 a0_1 a0_2 a0_3 a0_4 a0_5 t608 t609 t610)) else (laws_FnRangeRootOfLeaves.j1 kj4 l1 bt618.2.1 true a0_0 a0_1 a0_2 a0_3 a0_4 a0_5 t608 t609 t610))) = some r := H
          have A10 := Aside0.mk A100
          clear A100
          replace H := Option.bind_eq_some_iff.mp H
          obtain ⟨⟨t618, t621, t624⟩, A110, H⟩ := H
          replace H : (if t616 = true then (if t624 = true then ((spec_Root.f kj4 a0_0 a0_1 a0_2 a0_3 a0_4 a0_5 l1).bind fun t625 => ((spec_SameText.f t618 t625).bind fun t628 => (laws_FnRangeRootOfLeaves.j1 kj4 l1 t621 (!t628) a0_0 a0_1 a0_2 a0_3 a0_4 a0_5 t608 t609 t610))) else (laws_FnRangeRootOfLeaves.j1 kj4 l1 t621 true a0_0 a0_1 a0_2 a0_3 a0_4 a0_5 t608 t609 t610)) else (laws_FnRangeRootOfLeaves.j1 kj4 l1 t621 true a0_0 a0_1 a0_2 a0_3 a0_4 a0_5 t608 t609 t610)) = some r := H
          have A11 := Aside0.mk A110
          clear A110
          have HC12 := Aside0.mk H
          clear H
          have hcz13_0 : wc.cell? ⟨gb605, 0, none⟩ = some (.int .i64 a0_0) := (blk_cell BK605.out 0).trans rfl
          have hcz13_1 : wc.cell? ⟨gb605, 1, none⟩ = some (.int .i64 a0_1) := (blk_cell BK605.out 1).trans rfl
          have hcz13_2 : wc.cell? ⟨gb605, 2, none⟩ = some (.int .i64 a0_2) := (blk_cell BK605.out 2).trans rfl
          have hcz13_3 : wc.cell? ⟨gb605, 3, none⟩ = some (.int .u64 a0_3) := (blk_cell BK605.out 3).trans rfl
          have hcz13_4 : wc.cell? ⟨gb605, 4, none⟩ = some (.int .u64 a0_4) := (blk_cell BK605.out 4).trans rfl
          have hcz13_5 : wc.cell? ⟨gb605, 5, none⟩ = some (.int .u64 a0_5) := (blk_cell BK605.out 5).trans rfl
          have hfz13_0 := blk_frozen BK605.out 0
          have hfz13_1 := blk_frozen BK605.out 1
          have hfz13_2 := blk_frozen BK605.out 2
          have hfz13_3 := blk_frozen BK605.out 3
          have hfz13_4 := blk_frozen BK605.out 4
          have hfz13_5 := blk_frozen BK605.out 5
          go_upto_region 7 with (first | ((with_reducible refine gate_callee (f := 23) rfl ?_); refine goesL_ (some 29) rfl rfl Tryd.func23 (by kernel_rfl) rfl #[.agg #[.int .i64 a0_0, .int .i64 a0_1, .int .i64 a0_2, .int .u64 a0_3, .int .u64 a0_4, .int .u64 a0_5], .agg #[.int .u64 0, .int .u64 0, .slice none 0 0], .slice A1 l1.length c1] rfl (by (try simp only [List.map_toArray, List.map_cons, List.map_nil]); first | done | rfl | (simp only [List.length_drop, List.length_take]; rfl)) ?_; (refine (impl_Append.calls kj4 a0_0 a0_1 a0_2 a0_3 a0_4 a0_5 0 0 _ _ ([] : List (List Int)) _ _ l1 t608 t609 t610 t613 t616 _ ?side5 ?side1 ?side2 ?side3 ?side4 A10.out).mono ?_); (case side1 => exact Kd.C_nil _ _); (case side2 => exact Nat.le_refl _); (case side3 => repeat (first | exact (Kd.C_below HR1.out HB.out) | (with_reducible refine Kd.C_alloc ?_ _) | (with_reducible refine Kd.C_drewN ?_ _) | (with_reducible refine Kd.C_drew ?_))); (case side4 => exact HC1.out); (case side5 => exact Glob.below hG (by repeat (first | (with_reducible first | exact HB.out | apply below_alloc | apply pw_below_drewN | apply below_drew1 | refine below_set ?_ GE605.out) | exact HB.out))); rintro e w14 ⟨v611, v614, rfl, ho0, ho1, hb⟩; refine ⟨_, rfl, ?_⟩; have n0_ := Aside0.mk (Kd.S_lower ho0 (below_size (by repeat (first | (with_reducible first | exact HB.out | apply below_alloc | apply pw_below_drewN | apply below_drew1 | refine below_set ?_ GE605.out) | exact HB.out)))); have n1_ := Aside0.mk (Kd.S_lower ho1 (below_size (by repeat (first | (with_reducible first | exact HB.out | apply below_alloc | apply pw_below_drewN | apply below_drew1 | refine below_set ?_ GE605.out) | exact HB.out)))); have n2_ := Aside0.mk (blk_below (g := gb605) (o := .cells #[.int .i64 a0_0, .int .i64 a0_1, .int .i64 a0_2, .int .u64 a0_3, .int .u64 a0_4, .int .u64 a0_5] 24 (0, 0)) (by (with_reducible repeat (first | refine blk_drewN ?_ _ | refine blk_drew ?_ | refine blk_alloc ?_ _)); exact BK605.out) hb); have n3_ := Aside0.mk (below_step (by repeat (first | (with_reducible first | exact HB.out | apply below_alloc | apply pw_below_drewN | apply below_drew1 | refine below_set ?_ GE605.out) | exact HB.out)) hb); clear BK605; clear HB; have HO612 := n0_; have HO615 := n1_; have BK605 := n2_; have HB := n3_; clear n0_ n1_ n2_ n3_; (try clear hb); (try clear hb2); (try clear hk); (try clear hi); (try clear ho0); (try clear ho1)) | ((with_reducible refine gate_dst (N := 5) rfl ?_); (try (refine gate_guard (by rfl) ?_; dsimp only)); refine box_event ?hg (N := 5) ?hd (cs := #[.int .u64 0, .int .u64 0, .slice none 0 0]) (t := 34) ?hr ?_; (case hd => rfl); (case hg => rfl); (case hr => first | (go_simp; done) | (go_simp; rfl)); intro gb617 hg w15 hbox hb; have n0_ := Aside0.mk (Kd.S_below (by (with_reducible repeat (first | apply Kd.S_alloc | apply Kd.S_drewN | apply Kd.S_drew)); exact HO612.out) hb); have n1_ := Aside0.mk (Kd.S_below (by (with_reducible repeat (first | apply Kd.S_alloc | apply Kd.S_drewN | apply Kd.S_drew)); exact HO615.out) hb); have n2_ := Aside0.mk (blk_below (g := gb605) (o := .cells #[.int .i64 a0_0, .int .i64 a0_1, .int .i64 a0_2, .int .u64 a0_3, .int .u64 a0_4, .int .u64 a0_5] 24 (0, 0)) (by (with_reducible repeat (first | refine blk_drewN ?_ _ | refine blk_drew ?_ | refine blk_alloc ?_ _)); exact BK605.out) hb); have n3_ := Aside0.mk (below_step (by repeat (first | (with_reducible first | exact HB.out | apply below_alloc | apply pw_below_drewN | apply below_drew1 | refine below_set ?_ GE605.out) | exact HB.out)) hb); have n4_ := Aside0.mk (hbox); have n5_ := Aside0.mk ((by rw [hg]; exact (below_size (by repeat (first | (with_reducible first | exact HB.out | apply below_alloc | apply pw_below_drewN | apply below_drew1 | refine below_set ?_ GE605.out) | exact HB.out))) : w.heap.size ≤ gb617)); have n6_ := Aside0.mk ((by rw [hg]; exact (below_size (by repeat (first | (with_reducible first | exact HB.out | apply below_alloc | apply pw_below_drewN | apply below_drew1 | refine below_set ?_ GE605.out) | exact HB.out))) : w.heap.size ≤ gb617)); have n7_ := Aside0.mk ((by rw [hg]; exact Nat.ne_of_lt (blk_lt (g := gb605) (o := .cells #[.int .i64 a0_0, .int .i64 a0_1, .int .i64 a0_2, .int .u64 a0_3, .int .u64 a0_4, .int .u64 a0_5] 24 (0, 0)) (by (with_reducible repeat (first | refine blk_drewN ?_ _ | refine blk_drew ?_ | refine blk_alloc ?_ _)); exact BK605.out)) : gb605 ≠ gb617)); have n8_ := Aside0.mk ((by rw [hg]; exact Nat.ne_of_gt (blk_lt (g := gb605) (o := .cells #[.int .i64 a0_0, .int .i64 a0_1, .int .i64 a0_2, .int .u64 a0_3, .int .u64 a0_4, .int .u64 a0_5] 24 (0, 0)) (by (with_reducible repeat (first | refine blk_drewN ?_ _ | refine blk_drew ?_ | refine blk_alloc ?_ _)); exact BK605.out)) : gb617 ≠ gb605)); clear HO612; clear HO615; clear BK605; clear HB; have HO612 := n0_; have HO615 := n1_; have BK605 := n2_; have HB := n3_; have BK617 := n4_; have GW617 := n5_; have GE617 := n6_; have NB605_617 := n7_; have NB617_605 := n8_; clear n0_ n1_ n2_ n3_ n4_ n5_ n6_ n7_ n8_; clear hb hbox hg; have hnb16 := NB617_605.out; have hnc16 := NB605_617.out; have hcz17_0 : w15.cell? ⟨gb617, 0, none⟩ = some (.int .u64 0) := (blk_cell BK617.out 0).trans rfl; have hcz17_1 : w15.cell? ⟨gb617, 1, none⟩ = some (.int .u64 0) := (blk_cell BK617.out 1).trans rfl; have hcz17_2 : w15.cell? ⟨gb617, 2, none⟩ = some (.slice none 0 0) := (blk_cell BK617.out 2).trans rfl; have hfz17_0 := blk_frozen BK617.out 0; have hfz17_1 := blk_frozen BK617.out 1; have hfz17_2 := blk_frozen BK617.out 2; obtain ⟨Ao18, co18, eo18⟩ := Kd.S_slice HO612.out; subst eo18; have hcz19_0 : w15.cell? ⟨gb605, 0, none⟩ = some (.int .i64 a0_0) := (blk_cell BK605.out 0).trans rfl; have hcz19_1 : w15.cell? ⟨gb605, 1, none⟩ = some (.int .i64 a0_1) := (blk_cell BK605.out 1).trans rfl; have hcz19_2 : w15.cell? ⟨gb605, 2, none⟩ = some (.int .i64 a0_2) := (blk_cell BK605.out 2).trans rfl; have hcz19_3 : w15.cell? ⟨gb605, 3, none⟩ = some (.int .u64 a0_3) := (blk_cell BK605.out 3).trans rfl; have hcz19_4 : w15.cell? ⟨gb605, 4, none⟩ = some (.int .u64 a0_4) := (blk_cell BK605.out 4).trans rfl; have hcz19_5 : w15.cell? ⟨gb605, 5, none⟩ = some (.int .u64 a0_5) := (blk_cell BK605.out 5).trans rfl; have hfz19_0 := blk_frozen BK605.out 0; have hfz19_1 := blk_frozen BK605.out 1; have hfz19_2 := blk_frozen BK605.out 2; have hfz19_3 := blk_frozen BK605.out 3; have hfz19_4 := blk_frozen BK605.out 4; have hfz19_5 := blk_frozen BK605.out 5) | ((with_reducible refine gate_callee (f := 24) rfl ?_); refine goesL_ (some 36) rfl rfl Tryd.func24 (by kernel_rfl) rfl #[.agg #[.int .i64 a0_0, .int .i64 a0_1, .int .i64 a0_2, .int .u64 a0_3, .int .u64 a0_4, .int .u64 a0_5], .agg #[.int .u64 t608, .int .u64 t609, .slice Ao18 t610.length co18]] rfl (by (try simp only [List.map_toArray, List.map_cons, List.map_nil]); first | done | rfl | (simp only [List.length_drop, List.length_take]; rfl)) ?_; (with_reducible refine (impl_RootHash.calls kj4 a0_0 a0_1 a0_2 a0_3 a0_4 a0_5 t608 t609 _ _ t610 t618 t621 t624 _ ?side3 ?side1 ?side2 A11.out).mono ?_); (case side1 => refine (Kd.S_reads' (e := 27) (base := w.heap.size) (ok := fun k_ => True) (n := t610.length) (c := co18) ?_).2.2; exact (by (with_reducible repeat (first | apply Kd.S_alloc | apply Kd.S_drewN | apply Kd.S_drew)); exact (Kd.S_mono (Kd.S_far (p := ⟨gb617, 2, none⟩) (Kd.S_far (p := ⟨gb617, 1, none⟩) (Kd.S_far (p := ⟨gb617, 0, none⟩) (Kd.S_types HO612.out BK617.out (by decide)) (fun _ hk => hk.2) (.int .u64 t608)) (fun _ hk => hk.2) (.int .u64 t609)) (fun _ hk => hk.2) (.slice Ao18 t610.length co18)) (fun _ h_ => h_.1)))); (case side2 => exact (Kd.S_reads' HO612.out).2.1); (case side3 => exact Glob.below hG (by repeat (first | (with_reducible first | exact HB.out | apply below_alloc | apply pw_below_drewN | apply below_drew1 | refine below_set ?_ GE605.out | refine below_set ?_ GE617.out) | exact HB.out))); rintro e w20 ⟨v619, v622, rfl, ho0, ho1, hb⟩; refine ⟨_, rfl, ?_⟩; have n0_ := Aside0.mk (Kd.S_elder' (by (with_reducible repeat (first | apply Kd.S_alloc | apply Kd.S_drewN | apply Kd.S_drew)); exact (Kd.S_mono (Kd.S_far (p := ⟨gb617, 2, none⟩) (Kd.S_far (p := ⟨gb617, 1, none⟩) (Kd.S_far (p := ⟨gb617, 0, none⟩) (Kd.S_types HO612.out BK617.out (by decide)) (fun _ hk => hk.2) (.int .u64 t608)) (fun _ hk => hk.2) (.int .u64 t609)) (fun _ hk => hk.2) (.slice Ao18 t610.length co18)) (fun _ h_ => h_.1))) (Kd.R_base ho0) hb); have n1_ := Aside0.mk (Kd.S_mono (Kd.S_told (Kd.S_told (Kd.S_old (by (with_reducible repeat (first | apply Kd.S_alloc | apply Kd.S_drewN | apply Kd.S_drew)); exact (Kd.S_mono (Kd.S_far (p := ⟨gb617, 2, none⟩) (Kd.S_far (p := ⟨gb617, 1, none⟩) (Kd.S_far (p := ⟨gb617, 0, none⟩) (Kd.S_types HO615.out BK617.out (by decide)) (fun _ hk => hk.2) (.int .u64 t608)) (fun _ hk => hk.2) (.int .u64 t609)) (fun _ hk => hk.2) (.slice Ao18 t610.length co18)) (fun _ h_ => h_.1))) hb) (Kd.R_base ho0)) (Kd.S_base ho1)) (fun _ h_ => h_.1)); have n2_ := Aside0.mk (Kd.R_lower ho0 (below_size (by repeat (first | (with_reducible first | exact HB.out | apply below_alloc | apply pw_below_drewN | apply below_drew1 | refine below_set ?_ GE605.out | refine below_set ?_ GE617.out) | exact HB.out)))); have n3_ := Aside0.mk (Kd.S_lower (Kd.S_new' ho1 (Kd.S_lt (by (with_reducible repeat (first | apply Kd.S_alloc | apply Kd.S_drewN | apply Kd.S_drew)); exact (Kd.S_mono (Kd.S_far (p := ⟨gb617, 2, none⟩) (Kd.S_far (p := ⟨gb617, 1, none⟩) (Kd.S_far (p := ⟨gb617, 0, none⟩) (Kd.S_types HO615.out BK617.out (by decide)) (fun _ hk => hk.2) (.int .u64 t608)) (fun _ hk => hk.2) (.int .u64 t609)) (fun _ hk => hk.2) (.slice Ao18 t610.length co18)) (fun _ h_ => h_.1))))) (below_size (by repeat (first | (with_reducible first | exact HB.out | apply below_alloc | apply pw_below_drewN | apply below_drew1 | refine below_set ?_ GE605.out | refine below_set ?_ GE617.out) | exact HB.out)))); have n4_ := Aside0.mk (blk_below (g := gb605) (o := .cells #[.int .i64 a0_0, .int .i64 a0_1, .int .i64 a0_2, .int .u64 a0_3, .int .u64 a0_4, .int .u64 a0_5] 24 (0, 0)) (by (with_reducible repeat (first | refine blk_drewN ?_ _ | refine blk_drew ?_ | refine blk_alloc ?_ _)); refine blk_far ?_ NB605_617.out _; (with_reducible repeat (first | refine blk_drewN ?_ _ | refine blk_drew ?_ | refine blk_alloc ?_ _)); refine blk_far ?_ NB605_617.out _; (with_reducible repeat (first | refine blk_drewN ?_ _ | refine blk_drew ?_ | refine blk_alloc ?_ _)); refine blk_far ?_ NB605_617.out _; (with_reducible repeat (first | refine blk_drewN ?_ _ | refine blk_drew ?_ | refine blk_alloc ?_ _)); exact BK605.out) hb); have n5_ := Aside0.mk (blk_below (g := gb617) (o := .cells #[.int .u64 t608, .int .u64 t609, .slice Ao18 t610.length co18] 34 (0, 0)) (by (with_reducible repeat (first | refine blk_drewN ?_ _ | refine blk_drew ?_ | refine blk_alloc ?_ _)); refine blk_put (cs := #[.int .u64 t608, .int .u64 t609, .slice none 0 0]) ?_ 2 _ rfl; (with_reducible repeat (first | refine blk_drewN ?_ _ | refine blk_drew ?_ | refine blk_alloc ?_ _)); refine blk_put (cs := #[.int .u64 t608, .int .u64 0, .slice none 0 0]) ?_ 1 _ rfl; (with_reducible repeat (first | refine blk_drewN ?_ _ | refine blk_drew ?_ | refine blk_alloc ?_ _)); refine blk_put (cs := #[.int .u64 0, .int .u64 0, .slice none 0 0]) ?_ 0 _ rfl; (with_reducible repeat (first | refine blk_drewN ?_ _ | refine blk_drew ?_ | refine blk_alloc ?_ _)); exact BK617.out) hb); have n6_ := Aside0.mk (below_step (by repeat (first | (with_reducible first | exact HB.out | apply below_alloc | apply pw_below_drewN | apply below_drew1 | refine below_set ?_ GE605.out | refine below_set ?_ GE617.out) | exact HB.out)) hb); clear HO612; clear HO615; clear BK605; clear BK617; clear HB; have HO612 := n0_; have HO615 := n1_; have HO620 := n2_; have HO623 := n3_; have BK605 := n4_; have BK617 := n5_; have HB := n6_; clear n0_ n1_ n2_ n3_ n4_ n5_ n6_; (try clear hb); (try clear hb2); (try clear hk); (try clear hi); (try clear ho0); (try clear ho1)))
          (try simp only [Act.put, List.setIfInBounds_toArray, List.set_cons_zero, List.set_cons_succ])
          go_cut [53] (fun v53 wc => ∃ (kq : Nat) (x53_11 : Bool), v53 = .bool x53_11 ∧ Aside0 (laws_FnRangeRootOfLeaves.j1 kq l1 t621 x53_11 a0_0 a0_1 a0_2 a0_3 a0_4 a0_5 t608 t609 t610 = some r) ∧ Aside0 (kq ≤ kj4) ∧ Aside0 (Kd.S k51 51 wc w.heap.size (fun _ => True) v622 t621) ∧ Aside0 (Kd.S (Kd.slice 5 (Kd.int .u8)) 27 wc w.heap.size (fun _ => True) (.slice Ao18 t610.length co18) t610) ∧ Aside0 (wc.heap[gb605]? = some (.cells #[.int .i64 a0_0, .int .i64 a0_1, .int .i64 a0_2, .int .u64 a0_3, .int .u64 a0_4, .int .u64 a0_5] 24 (0, 0))) ∧ Aside0 (wc.heap[gb617]? = some (.cells #[.int .u64 t608, .int .u64 t609, (.slice Ao18 t610.length co18)] 34 (0, 0))) ∧ Aside0 (Below w.heap.size w wc))
          case first =>
            have H := HC12.out
            clear HC12
            by_cases c21 : t616 = true
            · subst c21
              have H1 : (if t624 = true then ((spec_Root.f kj4 a0_0 a0_1 a0_2 a0_3 a0_4 a0_5 l1).bind fun t625 => ((spec_SameText.f t618 t625).bind fun t628 => (laws_FnRangeRootOfLeaves.j1 kj4 l1 t621 (!t628) a0_0 a0_1 a0_2 a0_3 a0_4 a0_5 t608 t609 t610))) else (laws_FnRangeRootOfLeaves.j1 kj4 l1 t621 true a0_0 a0_1 a0_2 a0_3 a0_4 a0_5 t608 t609 t610)) = some r := by rw [if_pos rfl] at H; exact H
              clear H
              have H := H1
              clear H1
              by_cases c22 : t624 = true
              · subst c22
                have H1 : ((spec_Root.f kj4 a0_0 a0_1 a0_2 a0_3 a0_4 a0_5 l1).bind fun t625 => ((spec_SameText.f t618 t625).bind fun t628 => (laws_FnRangeRootOfLeaves.j1 kj4 l1 t621 (!t628) a0_0 a0_1 a0_2 a0_3 a0_4 a0_5 t608 t609 t610))) = some r := by rw [if_pos rfl] at H; exact H
                clear H
                have H := H1
                clear H1
                replace H := Option.bind_eq_some_iff.mp H
                obtain ⟨t625, A230, H⟩ := H
                replace H : ((spec_SameText.f t618 t625).bind fun t628 => (laws_FnRangeRootOfLeaves.j1 kj4 l1 t621 (!t628) a0_0 a0_1 a0_2 a0_3 a0_4 a0_5 t608 t609 t610)) = some r := H
                have A23 := Aside0.mk A230
                clear A230
                replace H := Option.bind_eq_some_iff.mp H
                obtain ⟨t628, A240, H⟩ := H
                replace H : (laws_FnRangeRootOfLeaves.j1 kj4 l1 t621 (!t628) a0_0 a0_1 a0_2 a0_3 a0_4 a0_5 t608 t609 t610) = some r := H
                have A24 := Aside0.mk A240
                clear A240
                have H' := Aside0.mk H
                clear H
                have hnb25 := NB605_617.out
                have hnc25 := NB617_605.out
                have hcz26_0 : w20.cell? ⟨gb605, 0, none⟩ = some (.int .i64 a0_0) := (blk_cell BK605.out 0).trans rfl
                have hcz26_1 : w20.cell? ⟨gb605, 1, none⟩ = some (.int .i64 a0_1) := (blk_cell BK605.out 1).trans rfl
                have hcz26_2 : w20.cell? ⟨gb605, 2, none⟩ = some (.int .i64 a0_2) := (blk_cell BK605.out 2).trans rfl
                have hcz26_3 : w20.cell? ⟨gb605, 3, none⟩ = some (.int .u64 a0_3) := (blk_cell BK605.out 3).trans rfl
                have hcz26_4 : w20.cell? ⟨gb605, 4, none⟩ = some (.int .u64 a0_4) := (blk_cell BK605.out 4).trans rfl
                have hcz26_5 : w20.cell? ⟨gb605, 5, none⟩ = some (.int .u64 a0_5) := (blk_cell BK605.out 5).trans rfl
                have hfz26_0 := blk_frozen BK605.out 0
                have hfz26_1 := blk_frozen BK605.out 1
                have hfz26_2 := blk_frozen BK605.out 2
                have hfz26_3 := blk_frozen BK605.out 3
                have hfz26_4 := blk_frozen BK605.out 4
                have hfz26_5 := blk_frozen BK605.out 5
                go_wp2_with (first | (go_at_call 16; (with_reducible refine (spec_Root.calls kj4 a0_0 a0_1 a0_2 a0_3 a0_4 a0_5 (fun k_ => k_ < w.heap.size) _ _ l1 t625 _ ?side1 A23.out).mono ?_); (case side1 => exact Kd.V_mk HC1.out (Kd.F_below (Kd.C_F (Kd.heap_slice 5 (Kd.heap_int .u8)) HR1.out) (by repeat (first | (with_reducible first | exact HB.out | apply below_alloc | apply pw_below_drewN | apply below_drew1 | refine below_set ?_ GE605.out | refine below_set ?_ GE617.out) | exact HB.out)))); rintro e w27 ⟨v626, rfl, ho0, hb⟩; have n0_ := Aside0.mk (Kd.S_below (by (with_reducible repeat (first | apply Kd.S_alloc | apply Kd.S_drewN | apply Kd.S_drew)); exact HO612.out) hb); have n1_ := Aside0.mk (Kd.S_below (by (with_reducible repeat (first | apply Kd.S_alloc | apply Kd.S_drewN | apply Kd.S_drew)); exact HO615.out) hb); have n2_ := Aside0.mk (Kd.R_below (by (with_reducible repeat (first | apply Kd.R_alloc | apply Kd.R_drewN | apply Kd.R_drew)); exact HO620.out) hb); have n3_ := Aside0.mk (Kd.S_below (by (with_reducible repeat (first | apply Kd.S_alloc | apply Kd.S_drewN | apply Kd.S_drew)); exact HO623.out) hb); have n4_ := Aside0.mk (Kd.V_lower (Kd.V_mono (ok' := fun k_ => some k_ ≠ (.slice Ao18 t610.length co18 : Value).ownBlock ∧ some k_ ≠ (v614 : Value).ownBlock ∧ some k_ ≠ (v619 : Value).ownBlock ∧ some k_ ≠ (v622 : Value).ownBlock ∧ k_ ≠ gb605 ∧ k_ ≠ gb617) ho0 (fun k_ hk_ => ⟨Or.elim hk_ (fun hs_ => fun e_ => Nat.not_le.2 hs_ (Kd.S_base HO612.out k_ e_.symm)) (fun hn_ => (Kd.fresh' (Kd.S_lt (by (with_reducible repeat (first | apply Kd.S_alloc | apply Kd.S_drewN | apply Kd.S_drew)); exact HO612.out)) k_ hn_)), Or.elim hk_ (fun hs_ => fun e_ => Nat.not_le.2 hs_ (Kd.S_base HO615.out k_ e_.symm)) (fun hn_ => (Kd.fresh' (Kd.S_lt (by (with_reducible repeat (first | apply Kd.S_alloc | apply Kd.S_drewN | apply Kd.S_drew)); exact HO615.out)) k_ hn_)), Or.elim hk_ (fun hs_ => fun e_ => Nat.not_le.2 hs_ (Kd.R_base HO620.out k_ e_.symm)) (fun hn_ => (Kd.fresh' (Kd.R_lt (by (with_reducible repeat (first | apply Kd.R_alloc | apply Kd.R_drewN | apply Kd.R_drew)); exact HO620.out)) k_ hn_)), Or.elim hk_ (fun hs_ => fun e_ => Nat.not_le.2 hs_ (Kd.S_base HO623.out k_ e_.symm)) (fun hn_ => (Kd.fresh' (Kd.S_lt (by (with_reducible repeat (first | apply Kd.S_alloc | apply Kd.S_drewN | apply Kd.S_drew)); exact HO623.out)) k_ hn_)), Or.elim hk_ (fun hs_ => fun e_ => Nat.not_le.2 hs_ (by rw [e_]; exact GW605.out)) (fun hn_ => (Kd.freshB (g := gb605) (o := .cells #[.int .i64 a0_0, .int .i64 a0_1, .int .i64 a0_2, .int .u64 a0_3, .int .u64 a0_4, .int .u64 a0_5] 24 (0, 0)) (by (with_reducible repeat (first | refine blk_drewN ?_ _ | refine blk_drew ?_ | refine blk_alloc ?_ _)); exact BK605.out) k_ hn_)), Or.elim hk_ (fun hs_ => fun e_ => Nat.not_le.2 hs_ (by rw [e_]; exact GW617.out)) (fun hn_ => (Kd.freshB (g := gb617) (o := .cells #[.int .u64 t608, .int .u64 t609, .slice Ao18 t610.length co18] 34 (0, 0)) (by (with_reducible repeat (first | refine blk_drewN ?_ _ | refine blk_drew ?_ | refine blk_alloc ?_ _)); exact BK617.out) k_ hn_))⟩)) (below_size (by repeat (first | (with_reducible first | exact HB.out | apply below_alloc | apply pw_below_drewN | apply below_drew1 | refine below_set ?_ GE605.out | refine below_set ?_ GE617.out) | exact HB.out)))); have n5_ := Aside0.mk (blk_below (g := gb605) (o := .cells #[.int .i64 a0_0, .int .i64 a0_1, .int .i64 a0_2, .int .u64 a0_3, .int .u64 a0_4, .int .u64 a0_5] 24 (0, 0)) (by (with_reducible repeat (first | refine blk_drewN ?_ _ | refine blk_drew ?_ | refine blk_alloc ?_ _)); exact BK605.out) hb); have n6_ := Aside0.mk (blk_below (g := gb617) (o := .cells #[.int .u64 t608, .int .u64 t609, .slice Ao18 t610.length co18] 34 (0, 0)) (by (with_reducible repeat (first | refine blk_drewN ?_ _ | refine blk_drew ?_ | refine blk_alloc ?_ _)); exact BK617.out) hb); have n7_ := Aside0.mk (below_step (by repeat (first | (with_reducible first | exact HB.out | apply below_alloc | apply pw_below_drewN | apply below_drew1 | refine below_set ?_ GE605.out | refine below_set ?_ GE617.out) | exact HB.out)) hb); clear HO612; clear HO615; clear HO620; clear HO623; clear BK605; clear BK617; clear HB; have HO612 := n0_; have HO615 := n1_; have HO620 := n2_; have HO623 := n3_; have HO627 := n4_; have BK605 := n5_; have BK617 := n6_; have HB := n7_; clear n0_ n1_ n2_ n3_ n4_ n5_ n6_ n7_; (try clear hb); (try clear hb2); (try clear hk); (try clear hi); (try clear ho0); obtain ⟨Ao28, co28, eo28⟩ := Kd.R_slice HO620.out; subst eo28; obtain ⟨Ao29, co29, eo29⟩ := Kd.V_slice HO627.out; subst eo29) | (go_at_call 15; (with_reducible refine (spec_SameText.calls _ _ t618 _ _ t625 t628 _ ?side1 ?side2 ?side3 ?side4 A24.out).mono ?_); (case side1 => repeat (first | exact (Kd.R_reads' HO620.out).2.2 | (with_reducible refine Kd.C_alloc ?_ _) | (with_reducible refine Kd.C_drewN ?_ _) | (with_reducible refine Kd.C_drew ?_))); (case side2 => exact (Kd.R_reads' HO620.out).2.1); (case side3 => repeat (first | exact (Kd.V_reads' HO627.out).2.2 | (with_reducible refine Kd.C_alloc ?_ _) | (with_reducible refine Kd.C_drewN ?_ _) | (with_reducible refine Kd.C_drew ?_))); (case side4 => exact (Kd.V_reads' HO627.out).2.1); rintro e w' ⟨rfl, ⟨nd, rfl⟩⟩))
                go_meet
                case rel => exact ⟨_, (!t628), (by first | rfl | (simp; done) | (simp [*]; done)), H', ⟨by have := HJ4.out; first | omega | exact Nat.le_refl _⟩, ⟨by (with_reducible repeat (first | apply Kd.S_alloc | apply Kd.S_drewN | apply Kd.S_drew)); exact Kd.S_mono HO623.out (fun _ hk => trivial)⟩, ⟨by (with_reducible repeat (first | apply Kd.S_alloc | apply Kd.S_drewN | apply Kd.S_drew)); exact Kd.S_mono HO612.out (fun _ hk => trivial)⟩, ⟨by (with_reducible repeat (first | refine blk_drewN ?_ _ | refine blk_drew ?_ | refine blk_alloc ?_ _)); exact BK605.out⟩, ⟨by (with_reducible repeat (first | refine blk_drewN ?_ _ | refine blk_drew ?_ | refine blk_alloc ?_ _)); exact BK617.out⟩, ⟨by repeat (first | (with_reducible first | exact HB.out | apply below_alloc | apply pw_below_drewN | apply below_drew1 | refine below_set ?_ GE605.out | refine below_set ?_ GE617.out) | exact HB.out)⟩⟩
              · replace c22 := Bool.eq_false_iff.mpr c22
                subst c22
                have H1 : (laws_FnRangeRootOfLeaves.j1 kj4 l1 t621 true a0_0 a0_1 a0_2 a0_3 a0_4 a0_5 t608 t609 t610) = some r := by rw [if_neg (show ¬ (false = true) by decide)] at H; exact H
                clear H
                have H := H1
                clear H1
                have H' := Aside0.mk H
                clear H
                go_wp2
                go_meet
                case rel => exact ⟨_, (true), (by first | rfl | (simp; done) | (simp [*]; done)), H', ⟨by have := HJ4.out; first | omega | exact Nat.le_refl _⟩, ⟨by (with_reducible repeat (first | apply Kd.S_alloc | apply Kd.S_drewN | apply Kd.S_drew)); exact Kd.S_mono HO623.out (fun _ hk => trivial)⟩, ⟨by (with_reducible repeat (first | apply Kd.S_alloc | apply Kd.S_drewN | apply Kd.S_drew)); exact Kd.S_mono HO612.out (fun _ hk => trivial)⟩, ⟨by (with_reducible repeat (first | refine blk_drewN ?_ _ | refine blk_drew ?_ | refine blk_alloc ?_ _)); exact BK605.out⟩, ⟨by (with_reducible repeat (first | refine blk_drewN ?_ _ | refine blk_drew ?_ | refine blk_alloc ?_ _)); exact BK617.out⟩, ⟨by repeat (first | (with_reducible first | exact HB.out | apply below_alloc | apply pw_below_drewN | apply below_drew1 | refine below_set ?_ GE605.out | refine below_set ?_ GE617.out) | exact HB.out)⟩⟩
            · replace c21 := Bool.eq_false_iff.mpr c21
              subst c21
              have H1 : (laws_FnRangeRootOfLeaves.j1 kj4 l1 t621 true a0_0 a0_1 a0_2 a0_3 a0_4 a0_5 t608 t609 t610) = some r := by rw [if_neg (show ¬ (false = true) by decide)] at H; exact H
              clear H
              have H := H1
              clear H1
              have H' := Aside0.mk H
              clear H
              go_wp2
              go_meet
              case rel => exact ⟨_, (true), (by first | rfl | (simp; done) | (simp [*]; done)), H', ⟨by have := HJ4.out; first | omega | exact Nat.le_refl _⟩, ⟨by (with_reducible repeat (first | apply Kd.S_alloc | apply Kd.S_drewN | apply Kd.S_drew)); exact Kd.S_mono HO623.out (fun _ hk => trivial)⟩, ⟨by (with_reducible repeat (first | apply Kd.S_alloc | apply Kd.S_drewN | apply Kd.S_drew)); exact Kd.S_mono HO612.out (fun _ hk => trivial)⟩, ⟨by (with_reducible repeat (first | refine blk_drewN ?_ _ | refine blk_drew ?_ | refine blk_alloc ?_ _)); exact BK605.out⟩, ⟨by (with_reducible repeat (first | refine blk_drewN ?_ _ | refine blk_drew ?_ | refine blk_alloc ?_ _)); exact BK617.out⟩, ⟨by repeat (first | (with_reducible first | exact HB.out | apply below_alloc | apply pw_below_drewN | apply below_drew1 | refine below_set ?_ GE605.out | refine below_set ?_ GE617.out) | exact HB.out)⟩⟩
          case rest =>
            clear HC12
            try clear c1
            try clear c2
            try clear p2
            try clear c4
            try clear c5
            try clear c8
            try clear c9
            try clear c12
            try clear c13
            try clear c16
            try clear c21
            try clear c22
            try clear c23
            try clear c24
            try clear c25
            try clear hcz13_0
            try clear hcz13_1
            try clear hcz13_2
            try clear hcz13_3
            try clear hcz13_4
            try clear hcz13_5
            try clear hcz17_0
            try clear hcz17_1
            try clear hcz17_2
            try clear hcz19_0
            try clear hcz19_1
            try clear hcz19_2
            try clear hcz19_3
            try clear hcz19_4
            try clear hcz19_5
            try clear hcz26_0
            try clear hcz26_1
            try clear hcz26_2
            try clear hcz26_3
            try clear hcz26_4
            try clear hcz26_5
            try clear hfz13_0
            try clear hfz13_1
            try clear hfz13_2
            try clear hfz13_3
            try clear hfz13_4
            try clear hfz13_5
            try clear hfz17_0
            try clear hfz17_1
            try clear hfz17_2
            try clear hfz19_0
            try clear hfz19_1
            try clear hfz19_2
            try clear hfz19_3
            try clear hfz19_4
            try clear hfz19_5
            try clear hfz26_0
            try clear hfz26_1
            try clear hfz26_2
            try clear hfz26_3
            try clear hfz26_4
            try clear hfz26_5
            try clear p2
            obtain ⟨kq, x53_11, rfl, HA, HJ11, HO_9, HO_618002, BK605, BK617, HB⟩ := hcut
            cases kq with
            | zero => exact absurd HA.out (by simp [laws_FnRangeRootOfLeaves.j1])
            | succ kj11 =>
              have H := HA.out
              clear HA
              simp only [laws_FnRangeRootOfLeaves.j1] at H
              by_cases c30 : x53_11 = true
              · subst c30
                have H1 : (none) = some r := by rw [if_pos rfl] at H; exact H
                clear H
                have H := H1
                clear H1
                exact absurd H (by simp)
              · replace c30 := Bool.eq_false_iff.mpr c30
                subst c30
                have H1 : (laws_FnRangeRootOfLeaves.l0 kj11 l1 t621 t621 (t621.length : Int) 0 a0_0 a0_1 a0_2 a0_3 a0_4 a0_5 t608 t609 t610) = some r := by rw [if_neg (show ¬ (false = true) by decide)] at H; exact H
                clear H
                have H := H1
                clear H1
                have H' := Aside0.mk H
                clear H
                obtain ⟨Ao31, co31, eo31⟩ := Kd.S_slice HO_9.out
                subst eo31
                go_wp2
                try simp only [Act.put, List.setIfInBounds_toArray, List.set_cons_zero, List.set_cons_succ]
                go_loopg [56] kj11 (fun kq v56 w' => ∃ (x56_3 : Int), v56 = .int .i64 x56_3 ∧ Aside0 (laws_FnRangeRootOfLeaves.l0 kq l1 t621 t621 (t621.length : Int) x56_3 a0_0 a0_1 a0_2 a0_3 a0_4 a0_5 t608 t609 t610 = some r) ∧ Aside0 (kq ≤ kj11) ∧ Aside0 (Kd.S k51 51 w' w.heap.size (fun _ => True) (.slice Ao31 t621.length co31) t621) ∧ Aside0 (Kd.S k51 51 w' w.heap.size (fun _ => True) (.slice Ao31 t621.length co31) t621) ∧ Aside0 (Kd.S (Kd.slice 5 (Kd.int .u8)) 27 w' w.heap.size (fun _ => True) (.slice Ao18 t610.length co18) t610) ∧ Aside0 (w'.heap[gb605]? = some (.cells #[.int .i64 a0_0, .int .i64 a0_1, .int .i64 a0_2, .int .u64 a0_3, .int .u64 a0_4, .int .u64 a0_5] 24 (0, 0))) ∧ Aside0 (w'.heap[gb617]? = some (.cells #[.int .u64 t608, .int .u64 t609, (.slice Ao18 t610.length co18)] 34 (0, 0))) ∧ Aside0 (Below w.heap.size w w'))
                case atStart => exact ⟨(0), (by first | rfl | (simp; done) | (simp [*]; done)), H', ⟨Nat.le_refl _⟩, ⟨by (with_reducible repeat (first | apply Kd.S_alloc | apply Kd.S_drewN | apply Kd.S_drew)); exact HO_9.out⟩, ⟨by (with_reducible repeat (first | apply Kd.S_alloc | apply Kd.S_drewN | apply Kd.S_drew)); exact HO_9.out⟩, ⟨by (with_reducible repeat (first | apply Kd.S_alloc | apply Kd.S_drewN | apply Kd.S_drew)); exact HO_618002.out⟩, ⟨by (with_reducible repeat (first | refine blk_drewN ?_ _ | refine blk_drew ?_ | refine blk_alloc ?_ _)); exact BK605.out⟩, ⟨by (with_reducible repeat (first | refine blk_drewN ?_ _ | refine blk_drew ?_ | refine blk_alloc ?_ _)); exact BK617.out⟩, ⟨by repeat (first | (with_reducible first | exact HB.out | apply below_alloc | apply pw_below_drewN | apply below_drew1 | refine below_set ?_ GE605.out | refine below_set ?_ GE617.out) | exact HB.out)⟩⟩
                case round =>
                  clear H'
                  try clear c1
                  try clear c2
                  try clear p2
                  try clear c3
                  try clear c4
                  try clear c5
                  try clear c8
                  try clear c9
                  try clear c12
                  try clear c13
                  try clear c16
                  try clear c21
                  try clear c22
                  try clear c23
                  try clear c24
                  try clear c25
                  try clear c30
                  try clear hcz13_0
                  try clear hcz13_1
                  try clear hcz13_2
                  try clear hcz13_3
                  try clear hcz13_4
                  try clear hcz13_5
                  try clear hcz17_0
                  try clear hcz17_1
                  try clear hcz17_2
                  try clear hcz19_0
                  try clear hcz19_1
                  try clear hcz19_2
                  try clear hcz19_3
                  try clear hcz19_4
                  try clear hcz19_5
                  try clear hcz26_0
                  try clear hcz26_1
                  try clear hcz26_2
                  try clear hcz26_3
                  try clear hcz26_4
                  try clear hcz26_5
                  try clear hfz13_0
                  try clear hfz13_1
                  try clear hfz13_2
                  try clear hfz13_3
                  try clear hfz13_4
                  try clear hfz13_5
                  try clear hfz17_0
                  try clear hfz17_1
                  try clear hfz17_2
                  try clear hfz19_0
                  try clear hfz19_1
                  try clear hfz19_2
                  try clear hfz19_3
                  try clear hfz19_4
                  try clear hfz19_5
                  try clear hfz26_0
                  try clear hfz26_1
                  try clear hfz26_2
                  try clear hfz26_3
                  try clear hfz26_4
                  try clear hfz26_5
                  try clear p2
                  obtain ⟨x56_3, rfl, HA, HK3, HO_9, HO_54, HO_618002, BK605, BK617, HB⟩ := hrel
                  cases gk with
                  | zero => exact absurd HA.out (by simp [laws_FnRangeRootOfLeaves.l0])
                  | succ k3 =>
                    have H := HA.out
                    clear HA
                    simp only [laws_FnRangeRootOfLeaves.l0] at H
                    by_cases c32 : x56_3 < (t621.length : Int)
                    · rw [if_pos c32] at H
                      have c32b0 : decide (x56_3 < (t621.length : Int)) = true := decide_eq_true c32
                      clear c32
                      by_cases c33 : 0 ≤ x56_3
                      · rw [if_pos c33] at H
                        have c33b0 : decide (0 ≤ x56_3) = true := decide_eq_true c33
                        clear c33
                        by_cases c34 : x56_3 < (t621.length : Int)
                        · rw [if_pos c34] at H
                          have c34b0 : decide (x56_3 < (t621.length : Int)) = true := decide_eq_true c34
                          clear c34
                          replace H := Option.bind_eq_some_iff.mp H
                          obtain ⟨⟨t631, t632⟩, A350, H⟩ := H
                          replace H : (if t631 ≥ (IntKind.u64.wrap ((l1.length : Int))) then (none) else (if t632 ≤ (IntKind.u64.wrap ((l1.length : Int))) then (none) else (if 0 ≤ t631 then (if t631 ≤ (l1.length : Int) then ((spec_Root.f k3 a0_0 a0_1 a0_2 a0_3 a0_4 a0_5 (l1.drop (t631 : Int).toNat)).bind fun t638 => ((spec_SameText.f ((rd_T51 t621 x56_3).f1) t638).bind fun t641 => (if t641 = true then (laws_FnRangeRootOfLeaves.l0 k3 l1 t621 t621 (t621.length : Int) (wrap64 (x56_3 + 1)) a0_0 a0_1 a0_2 a0_3 a0_4 a0_5 t608 t609 t610) else (none)))) else (none)) else (none)))) = some r := H
                          have A35 := Aside0.mk A350
                          clear A350
                          by_cases c36 : t631 ≥ (IntKind.u64.wrap ((l1.length : Int)))
                          · rw [if_pos c36] at H
                            exact absurd H (by simp)
                          · rw [if_neg c36] at H
                            have c36b0 : decide ((IntKind.u64.wrap ((l1.length : Int))) ≤ t631) = false := decide_eq_false c36
                            clear c36
                            by_cases c37 : t632 ≤ (IntKind.u64.wrap ((l1.length : Int)))
                            · rw [if_pos c37] at H
                              exact absurd H (by simp)
                            · rw [if_neg c37] at H
                              have c37b0 : decide (t632 ≤ (IntKind.u64.wrap ((l1.length : Int)))) = false := decide_eq_false c37
                              clear c37
                              by_cases c38 : 0 ≤ t631
                              · rw [if_pos c38] at H
                                have c38b0 := eq_true c38
                                have c38b1 : decide (0 ≤ t631) = true := decide_eq_true c38
                                clear c38
                                by_cases c39 : t631 ≤ (l1.length : Int)
                                · rw [if_pos c39] at H
                                  have c39b0 := eq_true c39
                                  have c39b1 : decide (t631 ≤ (l1.length : Int)) = true := decide_eq_true c39
                                  clear c39
                                  obtain ⟨y634, hy634⟩ : ∃ y_ : List (List Int), y_ = (l1.drop (t631 : Int).toNat) := ⟨_, rfl⟩
                                  replace H : ((spec_Root.f k3 a0_0 a0_1 a0_2 a0_3 a0_4 a0_5 y634).bind fun t638 => ((spec_SameText.f ((rd_T51 t621 x56_3).f1) t638).bind fun t641 => (if t641 = true then (laws_FnRangeRootOfLeaves.l0 k3 l1 t621 t621 (t621.length : Int) (wrap64 (x56_3 + 1)) a0_0 a0_1 a0_2 a0_3 a0_4 a0_5 t608 t609 t610) else (none)))) = some r := by first | (rw [hy634]; with_reducible exact H) | (have H2_ := (Option.bind_some _ _).symm.trans H; rw [hy634]; with_reducible exact H2_) | (have H2_ := (Option.bind_some _ _).symm.trans H; with_reducible exact H2_) | with_reducible exact H | (rw [hy634]; exact H) | exact H
                                  have Ny634 := Aside0.mk hy634
                                  clear hy634
                                  replace H := Option.bind_eq_some_iff.mp H
                                  obtain ⟨t638, A400, H⟩ := H
                                  replace H : ((spec_SameText.f ((rd_T51 t621 x56_3).f1) t638).bind fun t641 => (if t641 = true then (laws_FnRangeRootOfLeaves.l0 k3 l1 t621 t621 (t621.length : Int) (wrap64 (x56_3 + 1)) a0_0 a0_1 a0_2 a0_3 a0_4 a0_5 t608 t609 t610) else (none))) = some r := H
                                  have A40 := Aside0.mk A400
                                  clear A400
                                  replace H := Option.bind_eq_some_iff.mp H
                                  obtain ⟨t641, A410, H⟩ := H
                                  replace H : (if t641 = true then (laws_FnRangeRootOfLeaves.l0 k3 l1 t621 t621 (t621.length : Int) (wrap64 (x56_3 + 1)) a0_0 a0_1 a0_2 a0_3 a0_4 a0_5 t608 t609 t610) else (none)) = some r := H
                                  have A41 := Aside0.mk A410
                                  clear A410
                                  by_cases c42 : t641 = true
                                  · subst c42
                                    have H1 : (laws_FnRangeRootOfLeaves.l0 k3 l1 t621 t621 (t621.length : Int) (wrap64 (x56_3 + 1)) a0_0 a0_1 a0_2 a0_3 a0_4 a0_5 t608 t609 t610) = some r := by rw [if_pos rfl] at H; exact H
                                    clear H
                                    have H := H1
                                    clear H1
                                    have H' := Aside0.mk H
                                    clear H
                                    have p629 : 0 ≤ (x56_3 : Int) := of_decide_eq_true (by first | (with_reducible assumption) | assumption)
                                    have q629 : x56_3 < (t621.length : Int) := of_decide_eq_true (by first | (with_reducible assumption) | assumption)
                                    obtain ⟨ad629, A629_2, c629_2, e629, hx629_0, hx629_1, hx629_2, hl629_2, hi629_2⟩ := at_T51 (Kd.S_reads' HO_54.out).2.2 x56_3 p629 q629
                                    cases e629
                                    obtain ⟨ce629, hce629, hMe629, hcc629⟩ := Kd.S_get HO_54.out z51 x56_3 p629 (by first | exact q629 | exact of_decide_eq_true (by first | (with_reducible assumption) | assumption) | (have e_ := (Kd.S_reads' HO_54.out).1; omega))
                                    obtain ⟨ve629_2, rfl, ge629_2⟩ := k51_openM hMe629
                                    have hv629_2 := hcc629 2 _ rfl
                                    rw [add_field _ _ 2 (by omega)] at hv629_2
                                    replace hv629_2 := Option.some.inj (hv629_2.symm.trans hx629_2)
                                    rw [hv629_2] at ge629_2
                                    have HL629_2 := Aside0.mk (show Kd.R (Kd.int .u8) 5 _ _ _ _ ((rd_T51 t621 x56_3).f1) from ge629_2)
                                    clear hv629_2 ge629_2
                                    clear hcc629 hce629
                                    have HR629_2 := Aside0.mk hi629_2
                                    have HC629_2 := Aside0.mk hl629_2
                                    clear hi629_2 hl629_2
                                    replace p629 := eq_true p629
                                    replace q629 := eq_true q629
                                    try go_wp2_with (first | ((with_reducible refine gate_dst (N := 12) rfl ?_); (try (refine gate_guard (by rfl) ?_; dsimp only)); refine box_event ?hg (N := 12) ?hd (cs := #[.int .u64 0, .int .u64 0, .slice none 0 0]) (t := 51) ?hr ?_; (case hd => rfl); (case hg => rfl); (case hr => first | (go_simp; done) | (go_simp; rfl)); intro gb630 hg w43 hbox hb; have n0_ := Aside0.mk (Kd.S_below (Kd.S_elderB (by (with_reducible repeat (first | apply Kd.S_alloc | apply Kd.S_drewN | apply Kd.S_drew)); exact HO_9.out) gb630 (Nat.le_of_eq hg.symm)) hb); have n1_ := Aside0.mk (Kd.S_below (Kd.S_elderB (by (with_reducible repeat (first | apply Kd.S_alloc | apply Kd.S_drewN | apply Kd.S_drew)); exact HO_54.out) gb630 (Nat.le_of_eq hg.symm)) hb); have n2_ := Aside0.mk (Kd.S_below (by (with_reducible repeat (first | apply Kd.S_alloc | apply Kd.S_drewN | apply Kd.S_drew)); exact HO_618002.out) hb); have n3_ := Aside0.mk (Kd.R_below (by (with_reducible repeat (first | apply Kd.R_alloc | apply Kd.R_drewN | apply Kd.R_drew)); exact HL629_2.out) hb); have n4_ := Aside0.mk (blk_below (g := gb605) (o := .cells #[.int .i64 a0_0, .int .i64 a0_1, .int .i64 a0_2, .int .u64 a0_3, .int .u64 a0_4, .int .u64 a0_5] 24 (0, 0)) (by (with_reducible repeat (first | refine blk_drewN ?_ _ | refine blk_drew ?_ | refine blk_alloc ?_ _)); exact BK605.out) hb); have n5_ := Aside0.mk (blk_below (g := gb617) (o := .cells #[.int .u64 t608, .int .u64 t609, .slice Ao18 t610.length co18] 34 (0, 0)) (by (with_reducible repeat (first | refine blk_drewN ?_ _ | refine blk_drew ?_ | refine blk_alloc ?_ _)); exact BK617.out) hb); have n6_ := Aside0.mk (Kd.C_below (by repeat (first | (with_reducible exact HR629_2.out) | (with_reducible refine Kd.C_alloc ?_ _) | (with_reducible refine Kd.C_drewN ?_ _) | (with_reducible refine Kd.C_drew ?_) | exact HR629_2.out)) hb); have n7_ := Aside0.mk (below_step (by repeat (first | (with_reducible first | exact HB.out | apply below_alloc | apply pw_below_drewN | apply below_drew1 | refine below_set ?_ GE605.out | refine below_set ?_ GE617.out) | exact HB.out)) hb); have n8_ := Aside0.mk (hbox); have n9_ := Aside0.mk ((by rw [hg]; exact (below_size (by repeat (first | (with_reducible first | exact HB.out | apply below_alloc | apply pw_below_drewN | apply below_drew1 | refine below_set ?_ GE605.out | refine below_set ?_ GE617.out) | exact HB.out))) : w.heap.size ≤ gb630)); have n10_ := Aside0.mk ((by rw [hg]; exact (below_size (by repeat (first | (with_reducible first | exact HB.out | apply below_alloc | apply pw_below_drewN | apply below_drew1 | refine below_set ?_ GE605.out | refine below_set ?_ GE617.out) | exact HB.out))) : w.heap.size ≤ gb630)); have n11_ := Aside0.mk ((by rw [hg]; exact Nat.ne_of_lt (blk_lt (g := gb605) (o := .cells #[.int .i64 a0_0, .int .i64 a0_1, .int .i64 a0_2, .int .u64 a0_3, .int .u64 a0_4, .int .u64 a0_5] 24 (0, 0)) (by (with_reducible repeat (first | refine blk_drewN ?_ _ | refine blk_drew ?_ | refine blk_alloc ?_ _)); exact BK605.out)) : gb605 ≠ gb630)); have n12_ := Aside0.mk ((by rw [hg]; exact Nat.ne_of_gt (blk_lt (g := gb605) (o := .cells #[.int .i64 a0_0, .int .i64 a0_1, .int .i64 a0_2, .int .u64 a0_3, .int .u64 a0_4, .int .u64 a0_5] 24 (0, 0)) (by (with_reducible repeat (first | refine blk_drewN ?_ _ | refine blk_drew ?_ | refine blk_alloc ?_ _)); exact BK605.out)) : gb630 ≠ gb605)); have n13_ := Aside0.mk ((by rw [hg]; exact Nat.ne_of_lt (blk_lt (g := gb617) (o := .cells #[.int .u64 t608, .int .u64 t609, .slice Ao18 t610.length co18] 34 (0, 0)) (by (with_reducible repeat (first | refine blk_drewN ?_ _ | refine blk_drew ?_ | refine blk_alloc ?_ _)); exact BK617.out)) : gb617 ≠ gb630)); have n14_ := Aside0.mk ((by rw [hg]; exact Nat.ne_of_gt (blk_lt (g := gb617) (o := .cells #[.int .u64 t608, .int .u64 t609, .slice Ao18 t610.length co18] 34 (0, 0)) (by (with_reducible repeat (first | refine blk_drewN ?_ _ | refine blk_drew ?_ | refine blk_alloc ?_ _)); exact BK617.out)) : gb630 ≠ gb617)); clear HO_9; clear HO_54; clear HO_618002; clear HL629_2; clear BK605; clear BK617; clear HR629_2; clear HB; have HO_9 := n0_; have HO_54 := n1_; have HO_618002 := n2_; have HL629_2 := n3_; have BK605 := n4_; have BK617 := n5_; have HR629_2 := n6_; have HB := n7_; have BK630 := n8_; have GW630 := n9_; have GE630 := n10_; have NB605_630 := n11_; have NB630_605 := n12_; have NB617_630 := n13_; have NB630_617 := n14_; clear n0_ n1_ n2_ n3_ n4_ n5_ n6_ n7_ n8_ n9_ n10_ n11_ n12_ n13_ n14_; clear hb hbox hg; have hnb44 := NB630_605.out; have hnc44 := NB605_630.out; have hnb45 := NB630_617.out; have hnc45 := NB617_630.out; have hcz46_0 : w43.cell? ⟨gb630, 0, none⟩ = some (.int .u64 0) := (blk_cell BK630.out 0).trans rfl; have hcz46_1 : w43.cell? ⟨gb630, 1, none⟩ = some (.int .u64 0) := (blk_cell BK630.out 1).trans rfl; have hcz46_2 : w43.cell? ⟨gb630, 2, none⟩ = some (.slice none 0 0) := (blk_cell BK630.out 2).trans rfl; have hfz46_0 := blk_frozen BK630.out 0; have hfz46_1 := blk_frozen BK630.out 1; have hfz46_2 := blk_frozen BK630.out 2) | ((with_reducible refine gate_callee (f := 25) rfl ?_); refine goesL_ (some 62) rfl rfl Tryd.func25 (by kernel_rfl) rfl #[.agg #[.int .u64 ((rd_T51 t621 x56_3).f0.f0), .int .u64 ((rd_T51 t621 x56_3).f0.f1)]] rfl (by (try simp only [List.map_toArray, List.map_cons, List.map_nil]); first | done | rfl | (simp only [List.length_drop, List.length_take]; rfl)) ?_; (with_reducible refine (spec_Leaves.calls ((rd_T51 t621 x56_3).f0.f0) ((rd_T51 t621 x56_3).f0.f1) t631 t632 _ A35.out).mono ?_); rintro e w47 ⟨rfl, hb⟩; refine ⟨_, rfl, ?_⟩; have n0_ := Aside0.mk (Kd.S_below (by (with_reducible repeat (first | apply Kd.S_alloc | apply Kd.S_drewN | apply Kd.S_drew)); exact (Kd.S_mono (Kd.S_far (p := ⟨gb630, 2, none⟩) (Kd.S_far (p := ⟨gb630, 1, none⟩) (Kd.S_far (p := ⟨gb630, 0, none⟩) (Kd.S_mono HO_9.out (fun k_ hk => (⟨hk, hk.2⟩ : _ ∧ k_ ≠ gb630))) (fun _ hk => hk.2) (.int .u64 ((rd_T51 t621 x56_3).f0.f0))) (fun _ hk => hk.2) (.int .u64 ((rd_T51 t621 x56_3).f0.f1))) (fun _ hk => hk.2) (.slice A629_2 ((rd_T51 t621 x56_3).f1).length c629_2)) (fun _ h_ => h_.1))) hb); have n1_ := Aside0.mk (Kd.S_below (by (with_reducible repeat (first | apply Kd.S_alloc | apply Kd.S_drewN | apply Kd.S_drew)); exact (Kd.S_mono (Kd.S_far (p := ⟨gb630, 2, none⟩) (Kd.S_far (p := ⟨gb630, 1, none⟩) (Kd.S_far (p := ⟨gb630, 0, none⟩) (Kd.S_mono HO_54.out (fun k_ hk => (⟨hk, hk.2⟩ : _ ∧ k_ ≠ gb630))) (fun _ hk => hk.2) (.int .u64 ((rd_T51 t621 x56_3).f0.f0))) (fun _ hk => hk.2) (.int .u64 ((rd_T51 t621 x56_3).f0.f1))) (fun _ hk => hk.2) (.slice A629_2 ((rd_T51 t621 x56_3).f1).length c629_2)) (fun _ h_ => h_.1))) hb); have n2_ := Aside0.mk (Kd.S_below (by (with_reducible repeat (first | apply Kd.S_alloc | apply Kd.S_drewN | apply Kd.S_drew)); exact (Kd.S_mono (Kd.S_far (p := ⟨gb630, 2, none⟩) (Kd.S_far (p := ⟨gb630, 1, none⟩) (Kd.S_far (p := ⟨gb630, 0, none⟩) (Kd.S_types HO_618002.out BK630.out (by decide)) (fun _ hk => hk.2) (.int .u64 ((rd_T51 t621 x56_3).f0.f0))) (fun _ hk => hk.2) (.int .u64 ((rd_T51 t621 x56_3).f0.f1))) (fun _ hk => hk.2) (.slice A629_2 ((rd_T51 t621 x56_3).f1).length c629_2)) (fun _ h_ => h_.1))) hb); have n3_ := Aside0.mk (Kd.R_below (by (with_reducible repeat (first | apply Kd.R_alloc | apply Kd.R_drewN | apply Kd.R_drew)); exact (Kd.R_mono (Kd.R_far (p := ⟨gb630, 2, none⟩) (Kd.R_far (p := ⟨gb630, 1, none⟩) (Kd.R_far (p := ⟨gb630, 0, none⟩) (Kd.R_types HL629_2.out BK630.out (by decide)) (fun _ hk => hk.2) (.int .u64 ((rd_T51 t621 x56_3).f0.f0))) (fun _ hk => hk.2) (.int .u64 ((rd_T51 t621 x56_3).f0.f1))) (fun _ hk => hk.2) (.slice A629_2 ((rd_T51 t621 x56_3).f1).length c629_2)) (fun _ h_ => h_.1))) hb); have n4_ := Aside0.mk (blk_below (g := gb605) (o := .cells #[.int .i64 a0_0, .int .i64 a0_1, .int .i64 a0_2, .int .u64 a0_3, .int .u64 a0_4, .int .u64 a0_5] 24 (0, 0)) (by (with_reducible repeat (first | refine blk_drewN ?_ _ | refine blk_drew ?_ | refine blk_alloc ?_ _)); refine blk_far ?_ NB605_630.out _; (with_reducible repeat (first | refine blk_drewN ?_ _ | refine blk_drew ?_ | refine blk_alloc ?_ _)); refine blk_far ?_ NB605_630.out _; (with_reducible repeat (first | refine blk_drewN ?_ _ | refine blk_drew ?_ | refine blk_alloc ?_ _)); refine blk_far ?_ NB605_630.out _; (with_reducible repeat (first | refine blk_drewN ?_ _ | refine blk_drew ?_ | refine blk_alloc ?_ _)); exact BK605.out) hb); have n5_ := Aside0.mk (blk_below (g := gb617) (o := .cells #[.int .u64 t608, .int .u64 t609, .slice Ao18 t610.length co18] 34 (0, 0)) (by (with_reducible repeat (first | refine blk_drewN ?_ _ | refine blk_drew ?_ | refine blk_alloc ?_ _)); refine blk_far ?_ NB617_630.out _; (with_reducible repeat (first | refine blk_drewN ?_ _ | refine blk_drew ?_ | refine blk_alloc ?_ _)); refine blk_far ?_ NB617_630.out _; (with_reducible repeat (first | refine blk_drewN ?_ _ | refine blk_drew ?_ | refine blk_alloc ?_ _)); refine blk_far ?_ NB617_630.out _; (with_reducible repeat (first | refine blk_drewN ?_ _ | refine blk_drew ?_ | refine blk_alloc ?_ _)); exact BK617.out) hb); have n6_ := Aside0.mk (Kd.C_below ((Kd.R_reads' (by (with_reducible repeat (first | apply Kd.R_alloc | apply Kd.R_drewN | apply Kd.R_drew)); exact (Kd.R_mono (Kd.R_far (p := ⟨gb630, 2, none⟩) (Kd.R_far (p := ⟨gb630, 1, none⟩) (Kd.R_far (p := ⟨gb630, 0, none⟩) (Kd.R_types HL629_2.out BK630.out (by decide)) (fun _ hk => hk.2) (.int .u64 ((rd_T51 t621 x56_3).f0.f0))) (fun _ hk => hk.2) (.int .u64 ((rd_T51 t621 x56_3).f0.f1))) (fun _ hk => hk.2) (.slice A629_2 ((rd_T51 t621 x56_3).f1).length c629_2)) (fun _ h_ => h_.1)))).2.2) hb); have n7_ := Aside0.mk (blk_below (g := gb630) (o := .cells #[.int .u64 ((rd_T51 t621 x56_3).f0.f0), .int .u64 ((rd_T51 t621 x56_3).f0.f1), .slice A629_2 ((rd_T51 t621 x56_3).f1).length c629_2] 51 (0, 0)) (by (with_reducible repeat (first | refine blk_drewN ?_ _ | refine blk_drew ?_ | refine blk_alloc ?_ _)); refine blk_put (cs := #[.int .u64 ((rd_T51 t621 x56_3).f0.f0), .int .u64 ((rd_T51 t621 x56_3).f0.f1), .slice none 0 0]) ?_ 2 _ rfl; (with_reducible repeat (first | refine blk_drewN ?_ _ | refine blk_drew ?_ | refine blk_alloc ?_ _)); refine blk_put (cs := #[.int .u64 ((rd_T51 t621 x56_3).f0.f0), .int .u64 0, .slice none 0 0]) ?_ 1 _ rfl; (with_reducible repeat (first | refine blk_drewN ?_ _ | refine blk_drew ?_ | refine blk_alloc ?_ _)); refine blk_put (cs := #[.int .u64 0, .int .u64 0, .slice none 0 0]) ?_ 0 _ rfl; (with_reducible repeat (first | refine blk_drewN ?_ _ | refine blk_drew ?_ | refine blk_alloc ?_ _)); exact BK630.out) hb); have n8_ := Aside0.mk (below_step (by repeat (first | (with_reducible first | exact HB.out | apply below_alloc | apply pw_below_drewN | apply below_drew1 | refine below_set ?_ GE605.out | refine below_set ?_ GE617.out | refine below_set ?_ GE630.out) | exact HB.out)) hb); clear HO_9; clear HO_54; clear HO_618002; clear HL629_2; clear BK605; clear BK617; clear HR629_2; clear BK630; clear HB; have HO_9 := n0_; have HO_54 := n1_; have HO_618002 := n2_; have HL629_2 := n3_; have BK605 := n4_; have BK617 := n5_; have HR629_2 := n6_; have BK630 := n7_; have HB := n8_; clear n0_ n1_ n2_ n3_ n4_ n5_ n6_ n7_ n8_; (try clear hb); (try clear hb2); (try clear hk); (try clear hi)) | ((with_reducible refine gate_dst (N := 13) rfl ?_); (try (refine gate_guard (by rfl) ?_; dsimp only)); refine box_event ?hg (N := 13) ?hd (cs := #[.int .u64 0, .int .u64 0]) (t := 53) ?hr ?_; (case hd => rfl); (case hg => rfl); (case hr => first | (go_simp; done) | (go_simp; rfl)); intro gb633 hg w48 hbox hb; have n0_ := Aside0.mk (Kd.S_below (by (with_reducible repeat (first | apply Kd.S_alloc | apply Kd.S_drewN | apply Kd.S_drew)); exact HO_9.out) hb); have n1_ := Aside0.mk (Kd.S_below (by (with_reducible repeat (first | apply Kd.S_alloc | apply Kd.S_drewN | apply Kd.S_drew)); exact HO_54.out) hb); have n2_ := Aside0.mk (Kd.S_below (by (with_reducible repeat (first | apply Kd.S_alloc | apply Kd.S_drewN | apply Kd.S_drew)); exact HO_618002.out) hb); have n3_ := Aside0.mk (Kd.R_below (by (with_reducible repeat (first | apply Kd.R_alloc | apply Kd.R_drewN | apply Kd.R_drew)); exact HL629_2.out) hb); have n4_ := Aside0.mk (blk_below (g := gb605) (o := .cells #[.int .i64 a0_0, .int .i64 a0_1, .int .i64 a0_2, .int .u64 a0_3, .int .u64 a0_4, .int .u64 a0_5] 24 (0, 0)) (by (with_reducible repeat (first | refine blk_drewN ?_ _ | refine blk_drew ?_ | refine blk_alloc ?_ _)); exact BK605.out) hb); have n5_ := Aside0.mk (blk_below (g := gb617) (o := .cells #[.int .u64 t608, .int .u64 t609, .slice Ao18 t610.length co18] 34 (0, 0)) (by (with_reducible repeat (first | refine blk_drewN ?_ _ | refine blk_drew ?_ | refine blk_alloc ?_ _)); exact BK617.out) hb); have n6_ := Aside0.mk (Kd.C_below (by repeat (first | (with_reducible exact HR629_2.out) | (with_reducible refine Kd.C_alloc ?_ _) | (with_reducible refine Kd.C_drewN ?_ _) | (with_reducible refine Kd.C_drew ?_) | exact HR629_2.out)) hb); have n7_ := Aside0.mk (blk_below (g := gb630) (o := .cells #[.int .u64 ((rd_T51 t621 x56_3).f0.f0), .int .u64 ((rd_T51 t621 x56_3).f0.f1), .slice A629_2 ((rd_T51 t621 x56_3).f1).length c629_2] 51 (0, 0)) (by (with_reducible repeat (first | refine blk_drewN ?_ _ | refine blk_drew ?_ | refine blk_alloc ?_ _)); exact BK630.out) hb); have n8_ := Aside0.mk (below_step (by repeat (first | (with_reducible first | exact HB.out | apply below_alloc | apply pw_below_drewN | apply below_drew1 | refine below_set ?_ GE605.out | refine below_set ?_ GE617.out | refine below_set ?_ GE630.out) | exact HB.out)) hb); have n9_ := Aside0.mk (hbox); have n10_ := Aside0.mk ((by rw [hg]; exact (below_size (by repeat (first | (with_reducible first | exact HB.out | apply below_alloc | apply pw_below_drewN | apply below_drew1 | refine below_set ?_ GE605.out | refine below_set ?_ GE617.out | refine below_set ?_ GE630.out) | exact HB.out))) : w.heap.size ≤ gb633)); have n11_ := Aside0.mk ((by rw [hg]; exact (below_size (by repeat (first | (with_reducible first | exact HB.out | apply below_alloc | apply pw_below_drewN | apply below_drew1 | refine below_set ?_ GE605.out | refine below_set ?_ GE617.out | refine below_set ?_ GE630.out) | exact HB.out))) : w.heap.size ≤ gb633)); have n12_ := Aside0.mk ((by rw [hg]; exact Nat.ne_of_lt (blk_lt (g := gb605) (o := .cells #[.int .i64 a0_0, .int .i64 a0_1, .int .i64 a0_2, .int .u64 a0_3, .int .u64 a0_4, .int .u64 a0_5] 24 (0, 0)) (by (with_reducible repeat (first | refine blk_drewN ?_ _ | refine blk_drew ?_ | refine blk_alloc ?_ _)); exact BK605.out)) : gb605 ≠ gb633)); have n13_ := Aside0.mk ((by rw [hg]; exact Nat.ne_of_gt (blk_lt (g := gb605) (o := .cells #[.int .i64 a0_0, .int .i64 a0_1, .int .i64 a0_2, .int .u64 a0_3, .int .u64 a0_4, .int .u64 a0_5] 24 (0, 0)) (by (with_reducible repeat (first | refine blk_drewN ?_ _ | refine blk_drew ?_ | refine blk_alloc ?_ _)); exact BK605.out)) : gb633 ≠ gb605)); have n14_ := Aside0.mk ((by rw [hg]; exact Nat.ne_of_lt (blk_lt (g := gb617) (o := .cells #[.int .u64 t608, .int .u64 t609, .slice Ao18 t610.length co18] 34 (0, 0)) (by (with_reducible repeat (first | refine blk_drewN ?_ _ | refine blk_drew ?_ | refine blk_alloc ?_ _)); exact BK617.out)) : gb617 ≠ gb633)); have n15_ := Aside0.mk ((by rw [hg]; exact Nat.ne_of_gt (blk_lt (g := gb617) (o := .cells #[.int .u64 t608, .int .u64 t609, .slice Ao18 t610.length co18] 34 (0, 0)) (by (with_reducible repeat (first | refine blk_drewN ?_ _ | refine blk_drew ?_ | refine blk_alloc ?_ _)); exact BK617.out)) : gb633 ≠ gb617)); have n16_ := Aside0.mk ((by rw [hg]; exact Nat.ne_of_lt (blk_lt (g := gb630) (o := .cells #[.int .u64 ((rd_T51 t621 x56_3).f0.f0), .int .u64 ((rd_T51 t621 x56_3).f0.f1), .slice A629_2 ((rd_T51 t621 x56_3).f1).length c629_2] 51 (0, 0)) (by (with_reducible repeat (first | refine blk_drewN ?_ _ | refine blk_drew ?_ | refine blk_alloc ?_ _)); exact BK630.out)) : gb630 ≠ gb633)); have n17_ := Aside0.mk ((by rw [hg]; exact Nat.ne_of_gt (blk_lt (g := gb630) (o := .cells #[.int .u64 ((rd_T51 t621 x56_3).f0.f0), .int .u64 ((rd_T51 t621 x56_3).f0.f1), .slice A629_2 ((rd_T51 t621 x56_3).f1).length c629_2] 51 (0, 0)) (by (with_reducible repeat (first | refine blk_drewN ?_ _ | refine blk_drew ?_ | refine blk_alloc ?_ _)); exact BK630.out)) : gb633 ≠ gb630)); clear HO_9; clear HO_54; clear HO_618002; clear HL629_2; clear BK605; clear BK617; clear HR629_2; clear BK630; clear HB; have HO_9 := n0_; have HO_54 := n1_; have HO_618002 := n2_; have HL629_2 := n3_; have BK605 := n4_; have BK617 := n5_; have HR629_2 := n6_; have BK630 := n7_; have HB := n8_; have BK633 := n9_; have GW633 := n10_; have GE633 := n11_; have NB605_633 := n12_; have NB633_605 := n13_; have NB617_633 := n14_; have NB633_617 := n15_; have NB630_633 := n16_; have NB633_630 := n17_; clear n0_ n1_ n2_ n3_ n4_ n5_ n6_ n7_ n8_ n9_ n10_ n11_ n12_ n13_ n14_ n15_ n16_ n17_; clear hb hbox hg; have hnb49 := NB633_605.out; have hnc49 := NB605_633.out; have hnb50 := NB633_617.out; have hnc50 := NB617_633.out; have hnb51 := NB633_630.out; have hnc51 := NB630_633.out; have hcz52_0 : w48.cell? ⟨gb633, 0, none⟩ = some (.int .u64 0) := (blk_cell BK633.out 0).trans rfl; have hcz52_1 : w48.cell? ⟨gb633, 1, none⟩ = some (.int .u64 0) := (blk_cell BK633.out 1).trans rfl; have hfz52_0 := blk_frozen BK633.out 0; have hfz52_1 := blk_frozen BK633.out 1))
                                    have n0_ : Aside0 (Kd.S k51 51 ((w48.setCell ⟨gb633, 0, none⟩ (.int .u64 t631)).setCell ⟨gb633, 1, none⟩ (.int .u64 t632)) w.heap.size (fun k_ => k_ ≠ gb630) (.slice (some ad629) t621.length co31) t621) := ⟨by (with_reducible repeat (first | apply Kd.S_alloc | apply Kd.S_drewN | apply Kd.S_drew)); exact Kd.S_mono (Kd.S_far (p := ⟨gb633, 1, none⟩) (Kd.S_far (p := ⟨gb633, 0, none⟩) (Kd.S_types HO_9.out BK633.out (by decide)) (fun _ hk => hk.2) (.int .u64 t631)) (fun _ hk => hk.2) (.int .u64 t632)) (fun _ hk => hk.1.2)⟩
                                    have n1_ : Aside0 (Kd.S k51 51 ((w48.setCell ⟨gb633, 0, none⟩ (.int .u64 t631)).setCell ⟨gb633, 1, none⟩ (.int .u64 t632)) w.heap.size (fun k_ => k_ ≠ gb630) (.slice (some ad629) t621.length co31) t621) := ⟨by (with_reducible repeat (first | apply Kd.S_alloc | apply Kd.S_drewN | apply Kd.S_drew)); exact Kd.S_mono (Kd.S_far (p := ⟨gb633, 1, none⟩) (Kd.S_far (p := ⟨gb633, 0, none⟩) (Kd.S_types HO_54.out BK633.out (by decide)) (fun _ hk => hk.2) (.int .u64 t631)) (fun _ hk => hk.2) (.int .u64 t632)) (fun _ hk => hk.1.2)⟩
                                    have n2_ : Aside0 (Kd.S (Kd.slice 5 (Kd.int .u8)) 27 ((w48.setCell ⟨gb633, 0, none⟩ (.int .u64 t631)).setCell ⟨gb633, 1, none⟩ (.int .u64 t632)) w.heap.size (fun _ => True) (.slice Ao18 t610.length co18) t610) := ⟨by (with_reducible repeat (first | apply Kd.S_alloc | apply Kd.S_drewN | apply Kd.S_drew)); exact Kd.S_mono (Kd.S_far (p := ⟨gb633, 1, none⟩) (Kd.S_far (p := ⟨gb633, 0, none⟩) (Kd.S_types HO_618002.out BK633.out (by decide)) (fun _ hk => hk.2) (.int .u64 t631)) (fun _ hk => hk.2) (.int .u64 t632)) (fun _ hk => trivial)⟩
                                    have n3_ : Aside0 (Kd.R (Kd.int .u8) 5 ((w48.setCell ⟨gb633, 0, none⟩ (.int .u64 t631)).setCell ⟨gb633, 1, none⟩ (.int .u64 t632)) w.heap.size (fun k_ => some k_ ≠ (.slice (some ad629) t621.length co31 : Value).ownBlock) (.slice A629_2 ((rd_T51 t621 x56_3).f1).length c629_2) ((rd_T51 t621 x56_3).f1)) := ⟨by (with_reducible repeat (first | apply Kd.R_alloc | apply Kd.R_drewN | apply Kd.R_drew)); exact Kd.R_mono (Kd.R_far (p := ⟨gb633, 1, none⟩) (Kd.R_far (p := ⟨gb633, 0, none⟩) (Kd.R_types HL629_2.out BK633.out (by decide)) (fun _ hk => hk.2) (.int .u64 t631)) (fun _ hk => hk.2) (.int .u64 t632)) (fun _ hk => hk.1.2)⟩
                                    have n4_ : Aside0 (((w48.setCell ⟨gb633, 0, none⟩ (.int .u64 t631)).setCell ⟨gb633, 1, none⟩ (.int .u64 t632)).heap[gb605]? = some (.cells #[.int .i64 a0_0, .int .i64 a0_1, .int .i64 a0_2, .int .u64 a0_3, .int .u64 a0_4, .int .u64 a0_5] 24 (0, 0))) := ⟨by (with_reducible repeat (first | refine blk_drewN ?_ _ | refine blk_drew ?_ | refine blk_alloc ?_ _)); refine blk_far ?_ NB605_633.out _; (with_reducible repeat (first | refine blk_drewN ?_ _ | refine blk_drew ?_ | refine blk_alloc ?_ _)); refine blk_far ?_ NB605_633.out _; (with_reducible repeat (first | refine blk_drewN ?_ _ | refine blk_drew ?_ | refine blk_alloc ?_ _)); exact BK605.out⟩
                                    have n5_ : Aside0 (((w48.setCell ⟨gb633, 0, none⟩ (.int .u64 t631)).setCell ⟨gb633, 1, none⟩ (.int .u64 t632)).heap[gb617]? = some (.cells #[.int .u64 t608, .int .u64 t609, .slice Ao18 t610.length co18] 34 (0, 0))) := ⟨by (with_reducible repeat (first | refine blk_drewN ?_ _ | refine blk_drew ?_ | refine blk_alloc ?_ _)); refine blk_far ?_ NB617_633.out _; (with_reducible repeat (first | refine blk_drewN ?_ _ | refine blk_drew ?_ | refine blk_alloc ?_ _)); refine blk_far ?_ NB617_633.out _; (with_reducible repeat (first | refine blk_drewN ?_ _ | refine blk_drew ?_ | refine blk_alloc ?_ _)); exact BK617.out⟩
                                    have n6_ : Aside0 (((w48.setCell ⟨gb633, 0, none⟩ (.int .u64 t631)).setCell ⟨gb633, 1, none⟩ (.int .u64 t632)).heap[gb630]? = some (.cells #[.int .u64 ((rd_T51 t621 x56_3).f0.f0), .int .u64 ((rd_T51 t621 x56_3).f0.f1), .slice A629_2 ((rd_T51 t621 x56_3).f1).length c629_2] 51 (0, 0))) := ⟨by (with_reducible repeat (first | refine blk_drewN ?_ _ | refine blk_drew ?_ | refine blk_alloc ?_ _)); refine blk_far ?_ NB630_633.out _; (with_reducible repeat (first | refine blk_drewN ?_ _ | refine blk_drew ?_ | refine blk_alloc ?_ _)); refine blk_far ?_ NB630_633.out _; (with_reducible repeat (first | refine blk_drewN ?_ _ | refine blk_drew ?_ | refine blk_alloc ?_ _)); exact BK630.out⟩
                                    have n7_ : Aside0 (((w48.setCell ⟨gb633, 0, none⟩ (.int .u64 t631)).setCell ⟨gb633, 1, none⟩ (.int .u64 t632)).heap[gb633]? = some (.cells #[.int .u64 t631, .int .u64 t632] 53 (0, 0))) := ⟨by (with_reducible repeat (first | refine blk_drewN ?_ _ | refine blk_drew ?_ | refine blk_alloc ?_ _)); refine blk_put (cs := #[.int .u64 t631, .int .u64 0]) ?_ 1 _ rfl; (with_reducible repeat (first | refine blk_drewN ?_ _ | refine blk_drew ?_ | refine blk_alloc ?_ _)); refine blk_put (cs := #[.int .u64 0, .int .u64 0]) ?_ 0 _ rfl; (with_reducible repeat (first | refine blk_drewN ?_ _ | refine blk_drew ?_ | refine blk_alloc ?_ _)); exact BK633.out⟩
                                    have n8_ : Aside0 (Below w.heap.size w ((w48.setCell ⟨gb633, 0, none⟩ (.int .u64 t631)).setCell ⟨gb633, 1, none⟩ (.int .u64 t632))) := ⟨by repeat (first | (with_reducible first | exact HB.out | apply below_alloc | apply pw_below_drewN | apply below_drew1 | refine below_set ?_ GE605.out | refine below_set ?_ GE617.out | refine below_set ?_ GE630.out | refine below_set ?_ GE633.out) | exact HB.out)⟩
                                    (try clear HO_9)
                                    (try clear HO_54)
                                    (try clear HO_618002)
                                    (try clear HL629_2)
                                    (try clear BK605)
                                    (try clear BK617)
                                    (try clear BK630)
                                    (try clear BK633)
                                    (try clear HB)
                                    generalize ((w48.setCell ⟨gb633, 0, none⟩ (.int .u64 t631)).setCell ⟨gb633, 1, none⟩ (.int .u64 t632)) = w53 at n0_ n1_ n2_ n3_ n4_ n5_ n6_ n7_ n8_ ⊢
                                    have HO_9 := n0_
                                    have HO_54 := n1_
                                    have HO_618002 := n2_
                                    have HL629_2 := n3_
                                    have BK605 := n4_
                                    have BK617 := n5_
                                    have BK630 := n6_
                                    have BK633 := n7_
                                    have HB := n8_
                                    clear n0_ n1_ n2_ n3_ n4_ n5_ n6_ n7_ n8_
                                    (try (rw [drewN_self w53]; generalize hq_ : World.drewN w53 _ = w53; have n0_ : Aside0 (Kd.R (Kd.int .u8) 5 w53 w.heap.size (fun k_ => some k_ ≠ (.slice (some ad629) t621.length co31 : Value).ownBlock) (.slice A629_2 ((rd_T51 t621 x56_3).f1).length c629_2) ((rd_T51 t621 x56_3).f1)) := ⟨by rw [← hq_]; exact (by (with_reducible repeat (first | apply Kd.R_alloc | apply Kd.R_drewN | apply Kd.R_drew)); exact HL629_2.out)⟩; have n1_ : Aside0 (Kd.S k51 51 w53 w.heap.size (fun k_ => k_ ≠ gb630) (.slice (some ad629) t621.length co31) t621) := ⟨by rw [← hq_]; exact (by (with_reducible repeat (first | apply Kd.S_alloc | apply Kd.S_drewN | apply Kd.S_drew)); exact HO_54.out)⟩; have n2_ : Aside0 (Kd.S (Kd.slice 5 (Kd.int .u8)) 27 w53 w.heap.size (fun _ => True) (.slice Ao18 t610.length co18) t610) := ⟨by rw [← hq_]; exact (by (with_reducible repeat (first | apply Kd.S_alloc | apply Kd.S_drewN | apply Kd.S_drew)); exact HO_618002.out)⟩; have n3_ : Aside0 (Kd.S k51 51 w53 w.heap.size (fun k_ => k_ ≠ gb630) (.slice (some ad629) t621.length co31) t621) := ⟨by rw [← hq_]; exact (by (with_reducible repeat (first | apply Kd.S_alloc | apply Kd.S_drewN | apply Kd.S_drew)); exact HO_9.out)⟩; have n4_ : Aside0 (w53.heap[gb605]? = some (.cells #[.int .i64 a0_0, .int .i64 a0_1, .int .i64 a0_2, .int .u64 a0_3, .int .u64 a0_4, .int .u64 a0_5] 24 (0, 0))) := ⟨by rw [← hq_]; exact (by (with_reducible repeat (first | refine blk_drewN ?_ _ | refine blk_drew ?_ | refine blk_alloc ?_ _)); exact BK605.out)⟩; have n5_ : Aside0 (w53.heap[gb617]? = some (.cells #[.int .u64 t608, .int .u64 t609, .slice Ao18 t610.length co18] 34 (0, 0))) := ⟨by rw [← hq_]; exact (by (with_reducible repeat (first | refine blk_drewN ?_ _ | refine blk_drew ?_ | refine blk_alloc ?_ _)); exact BK617.out)⟩; have n6_ : Aside0 (w53.heap[gb630]? = some (.cells #[.int .u64 ((rd_T51 t621 x56_3).f0.f0), .int .u64 ((rd_T51 t621 x56_3).f0.f1), .slice A629_2 ((rd_T51 t621 x56_3).f1).length c629_2] 51 (0, 0))) := ⟨by rw [← hq_]; exact (by (with_reducible repeat (first | refine blk_drewN ?_ _ | refine blk_drew ?_ | refine blk_alloc ?_ _)); exact BK630.out)⟩; have n7_ : Aside0 (w53.heap[gb633]? = some (.cells #[.int .u64 t631, .int .u64 t632] 53 (0, 0))) := ⟨by rw [← hq_]; exact (by (with_reducible repeat (first | refine blk_drewN ?_ _ | refine blk_drew ?_ | refine blk_alloc ?_ _)); exact BK633.out)⟩; have n8_ : Aside0 (Below w.heap.size w w53) := ⟨by rw [← hq_]; exact (by repeat (first | (with_reducible first | exact HB.out | apply below_alloc | apply pw_below_drewN | apply below_drew1 | refine below_set ?_ GE605.out | refine below_set ?_ GE617.out | refine below_set ?_ GE630.out | refine below_set ?_ GE633.out) | exact HB.out))⟩; clear HL629_2 HO_54 HO_618002 HO_9 BK605 BK617 BK630 BK633 HB hq_; have HL629_2 := n0_; have HO_54 := n1_; have HO_618002 := n2_; have HO_9 := n3_; have BK605 := n4_; have BK617 := n5_; have BK630 := n6_; have BK633 := n7_; have HB := n8_; clear n0_ n1_ n2_ n3_ n4_ n5_ n6_ n7_ n8_))
                                    have n0_ := Aside0.mk (Kd.S_drew HO_9.out)
                                    have n1_ := Aside0.mk (Kd.S_drew HO_54.out)
                                    have n2_ := Aside0.mk (Kd.S_drew HO_618002.out)
                                    have n3_ := Aside0.mk (Kd.R_drew HL629_2.out)
                                    have n4_ := Aside0.mk (blk_drew BK605.out)
                                    have n5_ := Aside0.mk (blk_drew BK617.out)
                                    have n6_ := Aside0.mk (blk_drew BK630.out)
                                    have n7_ := Aside0.mk (blk_drew BK633.out)
                                    have n8_ := Aside0.mk (below_drew1 HB.out)
                                    clear HO_9
                                    clear HO_54
                                    clear HO_618002
                                    clear HL629_2
                                    clear BK605
                                    clear BK617
                                    clear BK630
                                    clear BK633
                                    clear HB
                                    have HO_9 := n0_
                                    have HO_54 := n1_
                                    have HO_618002 := n2_
                                    have HL629_2 := n3_
                                    have BK605 := n4_
                                    have BK617 := n5_
                                    have BK630 := n6_
                                    have BK633 := n7_
                                    have HB := n8_
                                    clear n0_ n1_ n2_ n3_ n4_ n5_ n6_ n7_ n8_
                                    have q55 : (t631 : Int) ≤ ((l1.length : Int) : Int) := of_decide_eq_true (by first | (with_reducible assumption) | assumption)
                                    obtain ⟨i055, hi055, _, hsz55, _⟩ := info_parts info27
                                    have hroom55 : l1.length ≤ c1 := HC1.out
                                    have hC55 : Kd.C (Kd.slice 5 (Kd.int .u8)) _ A1 l1.length l1 := HR1.out
                                    have q055 : (0 : Int) ≤ (t631 : Int) := of_decide_eq_true (by first | (with_reducible assumption) | assumption)
                                    have hcut55 := cut_from (P := Tryd.prog) 25 27 .i64 Tryd.underlying25 hi055 1 hsz55 A1 l1.length c1 t631 q055 q55
                                    have hcut55u := cut_from (P := Tryd.prog) 25 27 .u64 Tryd.underlying25 hi055 1 hsz55 A1 l1.length c1 t631 q055 q55
                                    have hr55 := Kd.C_drop (m := (t631 : Int).toNat) (c := c1) hC55 (by omega) hroom55
                                    obtain ⟨A55, hA55⟩ : ∃ A1_, A1_ = (if c1 = (t631 : Int).toNat then A1 else (A1 : Option Addr).map (·.add ((t631 : Int).toNat * 1))) := ⟨_, rfl⟩
                                    obtain ⟨c55, hc55⟩ : ∃ c1_, c1_ = c1 - (t631 : Int).toNat := ⟨_, rfl⟩
                                    have hy55 : y634.length = l1.length - (t631 : Int).toNat := (by rw [Ny634.out, List.length_drop] <;> omega)
                                    rw [show (l1).drop (t631 : Int).toNat = y634 from Ny634.out.symm] at hr55
                                    replace hr55 : Kd.C (Kd.slice 5 (Kd.int .u8)) _ A55 y634.length y634 := (by rw [hA55]; exact hr55)
                                    rw [← hy55, ← hA55, ← hc55] at hcut55 hcut55u
                                    have HR637 := Aside0.mk hr55
                                    have HC637 := Aside0.mk (show y634.length ≤ c55 from by rw [hy55, hc55]; exact Nat.sub_le_sub_right hroom55 _)
                                    clear hr55 hC55 hroom55 hi055 hsz55 hc55
                                    have KY55 := Aside0.mk hy55
                                    have KA55 := Aside0.mk hA55
                                    clear hy55 hA55
                                    replace q55 := eq_true q55
                                    refine start_ (n := 26) (S := fun w' => w'.cell? ⟨gb633, 0, none⟩ = some (.int .u64 t631) ∧ w'.cell? ⟨gb633, 1, none⟩ = some (.int .u64 t632) ∧ w'.cell? ⟨gb630, 0, none⟩ = some (.int .u64 ((rd_T51 t621 x56_3).f0.f0)) ∧ w'.cell? ⟨gb630, 1, none⟩ = some (.int .u64 ((rd_T51 t621 x56_3).f0.f1)) ∧ w'.cell? ⟨gb630, 2, none⟩ = some (.slice A629_2 ((rd_T51 t621 x56_3).f1).length c629_2) ∧ w'.cell? ⟨gb605, 0, none⟩ = some (.int .i64 a0_0) ∧ w'.cell? ⟨gb605, 1, none⟩ = some (.int .i64 a0_1) ∧ w'.cell? ⟨gb605, 2, none⟩ = some (.int .i64 a0_2) ∧ w'.cell? ⟨gb605, 3, none⟩ = some (.int .u64 a0_3) ∧ w'.cell? ⟨gb605, 4, none⟩ = some (.int .u64 a0_4) ∧ w'.cell? ⟨gb605, 5, none⟩ = some (.int .u64 a0_5)) (ds := []) #[false, false, false, false, false, false, false, false, false, false, false, false, false, false, false, false, false, false, false, false, false, false, false, false, false, false] (by kernel_rfl) rfl rfl ⟨(blk_cell BK633.out 0).trans rfl, (blk_cell BK633.out 1).trans rfl, (blk_cell BK630.out 0).trans rfl, (blk_cell BK630.out 1).trans rfl, (blk_cell BK630.out 2).trans rfl, (blk_cell BK605.out 0).trans rfl, (blk_cell BK605.out 1).trans rfl, (blk_cell BK605.out 2).trans rfl, (blk_cell BK605.out 3).trans rfl, (blk_cell BK605.out 4).trans rfl, (blk_cell BK605.out 5).trans rfl⟩ (fun hHeld => ?_); refine with_tabW laws_FnRangeRootOfLeaves.tab13 laws_FnRangeRootOfLeaves.bits13 (fun HT_ HW_ => ?_)
                                    generalize w53.drew = w54 at HO_9 HO_54 HO_618002 HL629_2 BK605 BK617 BK630 BK633 HB HR637 hHeld ⊢
                                    refine pure_ (i := 0) (N := some 63) (v := ?_) (a' := ?_) #[true, false, false, false, false, false, false, false, false, false, false, false, false, false, false, false, false, false, false, false, false, false, false, false, false, false] rfl rfl (any_of HT_.out (by kernel_rfl)) (fun _ _ _ h => h) (Or.inl ⟨by rfl, ?_⟩) ?_ ?_
                                    rotate_left
                                    · intro w'
                                      go_simp
                                      with_reducible rfl
                                    rotate_left
                                    · simp only [Act.put, List.setIfInBounds_toArray, List.set_cons_zero, List.set_cons_succ, i64_w, i32_w]
                                      rfl
                                    refine pure_ (i := 2) (N := some 65) (v := ?_) (a' := ?_) #[true, false, true, false, false, false, false, false, false, false, false, false, false, false, false, false, false, false, false, false, false, false, false, false, false, false] rfl rfl (any_of HT_.out (by kernel_rfl)) (fun _ _ _ h => h) (Or.inl ⟨by rfl, ?_⟩) ?_ ?_
                                    rotate_left
                                    · intro w'
                                      go_simp
                                      with_reducible rfl
                                    rotate_left
                                    · simp only [Act.put, List.setIfInBounds_toArray, List.set_cons_zero, List.set_cons_succ, i64_w, i32_w]
                                      rfl
                                    refine pure_ (i := 3) (N := some 66) (v := ?_) (a' := ?_) #[true, false, true, true, false, false, false, false, false, false, false, false, false, false, false, false, false, false, false, false, false, false, false, false, false, false] rfl rfl (any_of HT_.out (by kernel_rfl)) (fun _ _ _ h => h) (Or.inl ⟨by rfl, ?_⟩) ?_ ?_
                                    rotate_left
                                    · intro w'
                                      go_simp
                                      with_reducible rfl
                                    rotate_left
                                    · simp only [Act.put, List.setIfInBounds_toArray, List.set_cons_zero, List.set_cons_succ, i64_w, i32_w]
                                      rfl
                                    refine pure_ (i := 4) (N := some 67) (v := ?_) (a' := ?_) #[true, false, true, true, true, false, false, false, false, false, false, false, false, false, false, false, false, false, false, false, false, false, false, false, false, false] rfl rfl (any_of HT_.out (by kernel_rfl)) (fun _ _ _ h => h) (Or.inl ⟨by rfl, ?_⟩) ?_ ?_
                                    rotate_left
                                    · intro w'
                                      go_simp
                                      with_reducible rfl
                                    rotate_left
                                    · simp only [Act.put, List.setIfInBounds_toArray, List.set_cons_zero, List.set_cons_succ, i64_w, i32_w]
                                      rfl
                                    refine take_ (i := 1) (N := some 64) (v := ?_) (a' := ?_) #[true, true, true, true, true, false, false, false, false, false, false, false, false, false, false, false, false, false, false, false, false, false, false, false, false, false] rfl rfl (take_ofW HT_.out HW_.out (by kernel_rfl)) (fun _ _ _ h => h) (Or.inl ⟨by rfl, ?_⟩) hHeld ?_ ?_
                                    rotate_left
                                    · rintro w' ⟨s0, s1, s2, s3, s4, s5, s6, s7, s8, s9, s10⟩
                                      go_simp
                                      with_reducible rfl
                                    rotate_left
                                    · simp only [Act.put, List.setIfInBounds_toArray, List.set_cons_zero, List.set_cons_succ, i64_w, i32_w]
                                      rfl
                                    refine pure_ (i := 5) (N := some 68) (v := ?_) (a' := ?_) #[true, true, true, true, true, true, false, false, false, false, false, false, false, false, false, false, false, false, false, false, false, false, false, false, false, false] rfl rfl (any_of HT_.out (by kernel_rfl)) (fun _ _ _ h => h) (Or.inl ⟨by rfl, ?_⟩) ?_ ?_
                                    rotate_left
                                    · intro w'
                                      go_simp
                                      with_reducible rfl
                                    rotate_left
                                    · simp only [Act.put, List.setIfInBounds_toArray, List.set_cons_zero, List.set_cons_succ, i64_w, i32_w]
                                      rfl
                                    refine pure_ (i := 6) (N := some 69) (v := ?_) (a' := ?_) #[true, true, true, true, true, true, true, false, false, false, false, false, false, false, false, false, false, false, false, false, false, false, false, false, false, false] rfl rfl (any_of HT_.out (by kernel_rfl)) (fun _ _ _ h => h) (Or.inl ⟨by rfl, ?_⟩) ?_ ?_
                                    rotate_left
                                    · intro w'
                                      go_simp
                                      with_reducible rfl
                                    rotate_left
                                    · simp only [Act.put, List.setIfInBounds_toArray, List.set_cons_zero, List.set_cons_succ, i64_w, i32_w]
                                      rfl
                                    refine pure_ (i := 7) (N := some 70) (v := ?_) (a' := ?_) #[true, true, true, true, true, true, true, true, false, false, false, false, false, false, false, false, false, false, false, false, false, false, false, false, false, false] rfl rfl (any_of HT_.out (by kernel_rfl)) (fun _ _ _ h => h) (Or.inl ⟨by rfl, ?_⟩) ?_ ?_
                                    rotate_left
                                    · intro w'
                                      go_simp
                                      with_reducible rfl
                                    rotate_left
                                    · simp only [Act.put, List.setIfInBounds_toArray, List.set_cons_zero, List.set_cons_succ, i64_w, i32_w]
                                      rfl
                                    refine pure_ (i := 9) (N := some 72) (v := ?_) (a' := ?_) #[true, true, true, true, true, true, true, true, false, true, false, false, false, false, false, false, false, false, false, false, false, false, false, false, false, false] rfl rfl (any_of HT_.out (by kernel_rfl)) (fun _ _ _ h => h) (Or.inl ⟨by rfl, ?_⟩) ?_ ?_
                                    rotate_left
                                    · intro w'
                                      go_simp
                                      with_reducible rfl
                                    rotate_left
                                    · simp only [Act.put, List.setIfInBounds_toArray, List.set_cons_zero, List.set_cons_succ, i64_w, i32_w]
                                      rfl
                                    refine pure_ (i := 10) (N := some 73) (v := ?_) (a' := ?_) #[true, true, true, true, true, true, true, true, false, true, true, false, false, false, false, false, false, false, false, false, false, false, false, false, false, false] rfl rfl (any_of HT_.out (by kernel_rfl)) (fun _ _ _ h => h) (Or.inl ⟨by rfl, ?_⟩) ?_ ?_
                                    rotate_left
                                    · intro w'
                                      go_simp
                                      with_reducible rfl
                                    rotate_left
                                    · simp only [Act.put, List.setIfInBounds_toArray, List.set_cons_zero, List.set_cons_succ, i64_w, i32_w]
                                      rfl
                                    refine pure_ (i := 11) (N := some 74) (v := ?_) (a' := ?_) #[true, true, true, true, true, true, true, true, false, true, true, true, false, false, false, false, false, false, false, false, false, false, false, false, false, false] rfl rfl (any_of HT_.out (by kernel_rfl)) (fun _ _ _ h => h) (Or.inl ⟨by rfl, ?_⟩) ?_ ?_
                                    rotate_left
                                    · intro w'
                                      go_simp
                                      with_reducible rfl
                                    rotate_left
                                    · simp only [Act.put, List.setIfInBounds_toArray, List.set_cons_zero, List.set_cons_succ, i64_w, i32_w]
                                      rfl
                                    refine take_ (i := 8) (N := some 71) (v := ?_) (a' := ?_) #[true, true, true, true, true, true, true, true, true, true, true, true, false, false, false, false, false, false, false, false, false, false, false, false, false, false] rfl rfl (take_ofW HT_.out HW_.out (by kernel_rfl)) (fun _ _ _ h => h) (Or.inl ⟨by rfl, ?_⟩) hHeld ?_ ?_
                                    rotate_left
                                    · rintro w' ⟨s0, s1, s2, s3, s4, s5, s6, s7, s8, s9, s10⟩
                                      go_simp
                                      with_reducible rfl
                                    rotate_left
                                    · simp only [Act.put, List.setIfInBounds_toArray, List.set_cons_zero, List.set_cons_succ, i64_w, i32_w]
                                      rfl
                                    refine pure_ (i := 12) (N := some 75) (v := ?_) (a' := ?_) #[true, true, true, true, true, true, true, true, true, true, true, true, true, false, false, false, false, false, false, false, false, false, false, false, false, false] rfl rfl (any_of HT_.out (by kernel_rfl)) (fun _ _ _ h => h) (Or.inl ⟨by rfl, ?_⟩) ?_ ?_
                                    rotate_left
                                    · intro w'
                                      go_simp
                                      with_reducible rfl
                                    rotate_left
                                    · simp only [Act.put, List.setIfInBounds_toArray, List.set_cons_zero, List.set_cons_succ, i64_w, i32_w]
                                      rfl
                                    refine pure_ (i := 13) (N := some 76) (v := ?_) (a' := ?_) #[true, true, true, true, true, true, true, true, true, true, true, true, true, true, false, false, false, false, false, false, false, false, false, false, false, false] rfl rfl (any_of HT_.out (by kernel_rfl)) (fun _ _ _ h => h) (Or.inl ⟨by rfl, ?_⟩) ?_ ?_
                                    rotate_left
                                    · intro w'
                                      go_simp
                                      with_reducible rfl
                                    rotate_left
                                    · simp only [Act.put, List.setIfInBounds_toArray, List.set_cons_zero, List.set_cons_succ, i64_w, i32_w]
                                      rfl
                                    refine pure_ (i := 14) (N := some 77) (v := ?_) (a' := ?_) #[true, true, true, true, true, true, true, true, true, true, true, true, true, true, true, false, false, false, false, false, false, false, false, false, false, false] rfl rfl (any_of HT_.out (by kernel_rfl)) (fun _ _ _ h => h) (Or.inl ⟨by rfl, ?_⟩) ?_ ?_
                                    rotate_left
                                    · intro w'
                                      go_simp
                                      with_reducible rfl
                                    rotate_left
                                    · simp only [Act.put, List.setIfInBounds_toArray, List.set_cons_zero, List.set_cons_succ, i64_w, i32_w]
                                      rfl
                                    refine pure_ (i := 15) (N := some 78) (v := ?_) (a' := ?_) #[true, true, true, true, true, true, true, true, true, true, true, true, true, true, true, true, false, false, false, false, false, false, false, false, false, false] rfl rfl (any_of HT_.out (by kernel_rfl)) (fun _ _ _ h => h) (Or.inl ⟨by rfl, ?_⟩) ?_ ?_
                                    rotate_left
                                    · intro w'
                                      go_simp
                                      with_reducible rfl
                                    rotate_left
                                    · simp only [Act.put, List.setIfInBounds_toArray, List.set_cons_zero, List.set_cons_succ, i64_w, i32_w]
                                      rfl
                                    refine pure_ (i := 18) (N := some 81) (v := ?_) (a' := ?_) #[true, true, true, true, true, true, true, true, true, true, true, true, true, true, true, true, false, false, true, false, false, false, false, false, false, false] rfl rfl (any_of HT_.out (by kernel_rfl)) (fun _ _ _ h => h) (Or.inl ⟨by rfl, ?_⟩) ?_ ?_
                                    rotate_left
                                    · intro w'
                                      go_simp
                                      with_reducible rfl
                                    rotate_left
                                    · simp only [Act.put, List.setIfInBounds_toArray, List.set_cons_zero, List.set_cons_succ, i64_w, i32_w]
                                      rfl
                                    refine pure_ (i := 19) (N := some 82) (v := ?_) (a' := ?_) #[true, true, true, true, true, true, true, true, true, true, true, true, true, true, true, true, false, false, true, true, false, false, false, false, false, false] rfl rfl (any_of HT_.out (by kernel_rfl)) (fun _ _ _ h => h) (Or.inl ⟨by rfl, ?_⟩) ?_ ?_
                                    rotate_left
                                    · intro w'
                                      go_simp
                                      with_reducible rfl
                                    rotate_left
                                    · simp only [Act.put, List.setIfInBounds_toArray, List.set_cons_zero, List.set_cons_succ, i64_w, i32_w]
                                      rfl
                                    refine take_ (i := 16) (N := some 79) (v := ?_) (a' := ?_) #[true, true, true, true, true, true, true, true, true, true, true, true, true, true, true, true, true, false, true, true, false, false, false, false, false, false] rfl rfl (take_ofW HT_.out HW_.out (by kernel_rfl)) (fun _ _ _ h => h) (Or.inl ⟨by rfl, ?_⟩) hHeld ?_ ?_
                                    rotate_left
                                    · rintro w' ⟨s0, s1, s2, s3, s4, s5, s6, s7, s8, s9, s10⟩
                                      go_simp
                                      with_reducible rfl
                                    rotate_left
                                    · simp only [Act.put, List.setIfInBounds_toArray, List.set_cons_zero, List.set_cons_succ, i64_w, i32_w]
                                      rfl
                                    refine take_ (i := 17) (N := some 80) (v := ?_) (a' := ?_) #[true, true, true, true, true, true, true, true, true, true, true, true, true, true, true, true, true, true, true, true, false, false, false, false, false, false] rfl rfl (take_ofW HT_.out HW_.out (by kernel_rfl)) (fun _ _ _ h => h) (Or.inl ⟨by rfl, ?_⟩) hHeld ?_ ?_
                                    rotate_left
                                    · rintro w' ⟨s0, s1, s2, s3, s4, s5, s6, s7, s8, s9, s10⟩
                                      go_simp
                                      with_reducible rfl
                                    rotate_left
                                    · simp only [Act.put, List.setIfInBounds_toArray, List.set_cons_zero, List.set_cons_succ, i64_w, i32_w]
                                      rfl
                                    refine take_ (i := 20) (N := some 83) (v := ?_) (a' := ?_) #[true, true, true, true, true, true, true, true, true, true, true, true, true, true, true, true, true, true, true, true, true, false, false, false, false, false] rfl rfl (take_ofW HT_.out HW_.out (by kernel_rfl)) (fun _ _ _ h => h) (Or.inl ⟨by rfl, ?_⟩) hHeld ?_ ?_
                                    rotate_left
                                    · rintro w' ⟨s0, s1, s2, s3, s4, s5, s6, s7, s8, s9, s10⟩
                                      go_simp
                                      with_reducible rfl
                                    rotate_left
                                    · simp only [Act.put, List.setIfInBounds_toArray, List.set_cons_zero, List.set_cons_succ, i64_w, i32_w]
                                      rfl
                                    refine pure_ (i := 21) (N := some 84) (v := ?_) (a' := ?_) #[true, true, true, true, true, true, true, true, true, true, true, true, true, true, true, true, true, true, true, true, true, true, false, false, false, false] rfl rfl (any_of HT_.out (by kernel_rfl)) (fun _ _ _ h => h) (Or.inl ⟨by rfl, ?_⟩) ?_ ?_
                                    rotate_left
                                    · intro w'
                                      go_simp
                                      with_reducible rfl
                                    rotate_left
                                    · simp only [Act.put, List.setIfInBounds_toArray, List.set_cons_zero, List.set_cons_succ, i64_w, i32_w]
                                      rfl
                                    refine one_ (i := 22) (N := some 85) #[true, true, true, true, true, true, true, true, true, true, true, true, true, true, true, true, true, true, true, true, true, true, true, false, false, false] rfl rfl (one_of HT_.out (by kernel_rfl)) (by decide) (fun K hK => ?_)
                                    refine goes_ Tryd.func16 (by kernel_rfl) rfl #[.agg #[.int .i64 a0_0, .int .i64 a0_1, .int .i64 a0_2, .int .u64 a0_3, .int .u64 a0_4, .int .u64 a0_5], .slice A55 y634.length c55] (by rfl) rfl rfl (by (try simp only [List.map_toArray, List.map_cons, List.map_nil]); first | done | rfl | (simp only [List.length_drop, List.length_take]; rfl)) ?_
                                    with_reducible refine (spec_Root.calls k3 a0_0 a0_1 a0_2 a0_3 a0_4 a0_5 (fun k_ => k_ < w.heap.size) _ _ y634 t638 _ ?side1 A40.out).mono ?_
                                    (case side1 => exact Kd.V_mk HC637.out (Kd.F_below (Kd.C_F (Kd.heap_slice 5 (Kd.heap_int .u8)) HR637.out) (by repeat (first | (with_reducible first | exact HB.out | apply below_alloc | apply pw_below_drewN | apply below_drew1 | refine below_set ?_ GE605.out | refine below_set ?_ GE617.out | refine below_set ?_ GE630.out | refine below_set ?_ GE633.out) | exact HB.out))))
                                    rintro e w56 ⟨v639, rfl, ho0, hb⟩
                                    refine ⟨_, rfl, ?_⟩
                                    have n0_ := Aside0.mk (Kd.S_below (by (with_reducible repeat (first | apply Kd.S_alloc | apply Kd.S_drewN | apply Kd.S_drew)); exact HO_9.out) hb)
                                    have n1_ := Aside0.mk (Kd.S_below (by (with_reducible repeat (first | apply Kd.S_alloc | apply Kd.S_drewN | apply Kd.S_drew)); exact HO_54.out) hb)
                                    have n2_ := Aside0.mk (Kd.S_below (by (with_reducible repeat (first | apply Kd.S_alloc | apply Kd.S_drewN | apply Kd.S_drew)); exact HO_618002.out) hb)
                                    have n3_ := Aside0.mk (Kd.R_below (by (with_reducible repeat (first | apply Kd.R_alloc | apply Kd.R_drewN | apply Kd.R_drew)); exact HL629_2.out) hb)
                                    have n4_ := Aside0.mk (Kd.V_lower (Kd.V_mono (ok' := fun k_ => some k_ ≠ (.slice (some ad629) t621.length co31 : Value).ownBlock ∧ some k_ ≠ (.slice (some ad629) t621.length co31 : Value).ownBlock ∧ some k_ ≠ (.slice Ao18 t610.length co18 : Value).ownBlock ∧ k_ ≠ gb605 ∧ k_ ≠ gb617 ∧ k_ ≠ gb630 ∧ k_ ≠ gb633) ho0 (fun k_ hk_ => ⟨Or.elim hk_ (fun hs_ => fun e_ => Nat.not_le.2 hs_ (Kd.S_base HO_9.out k_ e_.symm)) (fun hn_ => (Kd.fresh' (Kd.S_lt (by (with_reducible repeat (first | apply Kd.S_alloc | apply Kd.S_drewN | apply Kd.S_drew)); exact HO_9.out)) k_ hn_)), Or.elim hk_ (fun hs_ => fun e_ => Nat.not_le.2 hs_ (Kd.S_base HO_54.out k_ e_.symm)) (fun hn_ => (Kd.fresh' (Kd.S_lt (by (with_reducible repeat (first | apply Kd.S_alloc | apply Kd.S_drewN | apply Kd.S_drew)); exact HO_54.out)) k_ hn_)), Or.elim hk_ (fun hs_ => fun e_ => Nat.not_le.2 hs_ (Kd.S_base HO_618002.out k_ e_.symm)) (fun hn_ => (Kd.fresh' (Kd.S_lt (by (with_reducible repeat (first | apply Kd.S_alloc | apply Kd.S_drewN | apply Kd.S_drew)); exact HO_618002.out)) k_ hn_)), Or.elim hk_ (fun hs_ => fun e_ => Nat.not_le.2 hs_ (by rw [e_]; exact GW605.out)) (fun hn_ => (Kd.freshB (g := gb605) (o := .cells #[.int .i64 a0_0, .int .i64 a0_1, .int .i64 a0_2, .int .u64 a0_3, .int .u64 a0_4, .int .u64 a0_5] 24 (0, 0)) (by (with_reducible repeat (first | refine blk_drewN ?_ _ | refine blk_drew ?_ | refine blk_alloc ?_ _)); exact BK605.out) k_ hn_)), Or.elim hk_ (fun hs_ => fun e_ => Nat.not_le.2 hs_ (by rw [e_]; exact GW617.out)) (fun hn_ => (Kd.freshB (g := gb617) (o := .cells #[.int .u64 t608, .int .u64 t609, .slice Ao18 t610.length co18] 34 (0, 0)) (by (with_reducible repeat (first | refine blk_drewN ?_ _ | refine blk_drew ?_ | refine blk_alloc ?_ _)); exact BK617.out) k_ hn_)), Or.elim hk_ (fun hs_ => fun e_ => Nat.not_le.2 hs_ (by rw [e_]; exact GW630.out)) (fun hn_ => (Kd.freshB (g := gb630) (o := .cells #[.int .u64 ((rd_T51 t621 x56_3).f0.f0), .int .u64 ((rd_T51 t621 x56_3).f0.f1), .slice A629_2 ((rd_T51 t621 x56_3).f1).length c629_2] 51 (0, 0)) (by (with_reducible repeat (first | refine blk_drewN ?_ _ | refine blk_drew ?_ | refine blk_alloc ?_ _)); exact BK630.out) k_ hn_)), Or.elim hk_ (fun hs_ => fun e_ => Nat.not_le.2 hs_ (by rw [e_]; exact GW633.out)) (fun hn_ => (Kd.freshB (g := gb633) (o := .cells #[.int .u64 t631, .int .u64 t632] 53 (0, 0)) (by (with_reducible repeat (first | refine blk_drewN ?_ _ | refine blk_drew ?_ | refine blk_alloc ?_ _)); exact BK633.out) k_ hn_))⟩)) (below_size (by repeat (first | (with_reducible first | exact HB.out | apply below_alloc | apply pw_below_drewN | apply below_drew1 | refine below_set ?_ GE605.out | refine below_set ?_ GE617.out | refine below_set ?_ GE630.out | refine below_set ?_ GE633.out) | exact HB.out))))
                                    have n5_ := Aside0.mk (blk_below (g := gb605) (o := .cells #[.int .i64 a0_0, .int .i64 a0_1, .int .i64 a0_2, .int .u64 a0_3, .int .u64 a0_4, .int .u64 a0_5] 24 (0, 0)) (by (with_reducible repeat (first | refine blk_drewN ?_ _ | refine blk_drew ?_ | refine blk_alloc ?_ _)); exact BK605.out) hb)
                                    have n6_ := Aside0.mk (blk_below (g := gb617) (o := .cells #[.int .u64 t608, .int .u64 t609, .slice Ao18 t610.length co18] 34 (0, 0)) (by (with_reducible repeat (first | refine blk_drewN ?_ _ | refine blk_drew ?_ | refine blk_alloc ?_ _)); exact BK617.out) hb)
                                    have n7_ := Aside0.mk (blk_below (g := gb630) (o := .cells #[.int .u64 ((rd_T51 t621 x56_3).f0.f0), .int .u64 ((rd_T51 t621 x56_3).f0.f1), .slice A629_2 ((rd_T51 t621 x56_3).f1).length c629_2] 51 (0, 0)) (by (with_reducible repeat (first | refine blk_drewN ?_ _ | refine blk_drew ?_ | refine blk_alloc ?_ _)); exact BK630.out) hb)
                                    have n8_ := Aside0.mk (blk_below (g := gb633) (o := .cells #[.int .u64 t631, .int .u64 t632] 53 (0, 0)) (by (with_reducible repeat (first | refine blk_drewN ?_ _ | refine blk_drew ?_ | refine blk_alloc ?_ _)); exact BK633.out) hb)
                                    have n9_ := Aside0.mk (below_step (by repeat (first | (with_reducible first | exact HB.out | apply below_alloc | apply pw_below_drewN | apply below_drew1 | refine below_set ?_ GE605.out | refine below_set ?_ GE617.out | refine below_set ?_ GE630.out | refine below_set ?_ GE633.out) | exact HB.out)) hb)
                                    clear HO_9
                                    clear HO_54
                                    clear HO_618002
                                    clear HL629_2
                                    clear BK605
                                    clear BK617
                                    clear BK630
                                    clear BK633
                                    clear HB
                                    have HO_9 := n0_
                                    have HO_54 := n1_
                                    have HO_618002 := n2_
                                    have HL629_2 := n3_
                                    have HO640 := n4_
                                    have BK605 := n5_
                                    have BK617 := n6_
                                    have BK630 := n7_
                                    have BK633 := n8_
                                    have HB := n9_
                                    clear n0_ n1_ n2_ n3_ n4_ n5_ n6_ n7_ n8_ n9_
                                    (try clear hb)
                                    (try clear hb2)
                                    (try clear hk)
                                    (try clear hi)
                                    (try clear ho0)
                                    obtain ⟨Ao57, co57, eo57⟩ := Kd.V_slice HO640.out
                                    (first | subst eo57 | (injection eo57 with f1_ f2_ f3_; have f4_ := f1_.symm; have f5_ := f3_.symm; clear f1_ f2_ f3_; subst f4_; subst f5_))
                                    refine hK.out _ _ ⟨(blk_cell BK633.out 0).trans rfl, (blk_cell BK633.out 1).trans rfl, (blk_cell BK630.out 0).trans rfl, (blk_cell BK630.out 1).trans rfl, (blk_cell BK630.out 2).trans rfl, (blk_cell BK605.out 0).trans rfl, (blk_cell BK605.out 1).trans rfl, (blk_cell BK605.out 2).trans rfl, (blk_cell BK605.out 3).trans rfl, (blk_cell BK605.out 4).trans rfl, (blk_cell BK605.out 5).trans rfl⟩ (fun hHeld => ?_)
                                    clear hK K
                                    refine norm_ (a' := ?_) ?_ ?_
                                    rotate_left
                                    · show Act.put _ (some 85) _ = _
                                      simp only [Act.put, List.setIfInBounds_toArray, List.set_cons_zero, List.set_cons_succ, i64_w, i32_w]
                                      rfl
                                    refine one_ (i := 23) (N := some 86) #[true, true, true, true, true, true, true, true, true, true, true, true, true, true, true, true, true, true, true, true, true, true, true, true, false, false] rfl rfl (one_of HT_.out (by kernel_rfl)) (by decide) (fun K hK => ?_)
                                    refine goes_ Tryd.func15 (by kernel_rfl) rfl #[.slice A629_2 ((rd_T51 t621 x56_3).f1).length c629_2, .slice Ao57 t638.length co57] (by rfl) rfl rfl (by (try simp only [List.map_toArray, List.map_cons, List.map_nil]); first | done | rfl | (simp only [List.length_drop, List.length_take]; rfl)) ?_
                                    with_reducible refine (spec_SameText.calls _ _ ((rd_T51 t621 x56_3).f1) _ _ t638 true _ ?side1 ?side2 ?side3 ?side4 A41.out).mono ?_
                                    (case side1 => repeat (first | exact ((Kd.R_reads' (by (with_reducible repeat (first | apply Kd.R_alloc | apply Kd.R_drewN | apply Kd.R_drew)); exact HL629_2.out)).2.2) | (with_reducible refine Kd.C_alloc ?_ _) | (with_reducible refine Kd.C_drewN ?_ _) | (with_reducible refine Kd.C_drew ?_)))
                                    (case side2 => exact HC629_2.out)
                                    (case side3 => repeat (first | exact (Kd.V_reads' HO640.out).2.2 | (with_reducible refine Kd.C_alloc ?_ _) | (with_reducible refine Kd.C_drewN ?_ _) | (with_reducible refine Kd.C_drew ?_)))
                                    (case side4 => exact (Kd.V_reads' HO640.out).2.1)
                                    rintro e w' ⟨rfl, ⟨nd, rfl⟩⟩
                                    refine ⟨_, rfl, ?_⟩
                                    refine hK.out _ _ ⟨(blk_cell BK633.out 0).trans rfl, (blk_cell BK633.out 1).trans rfl, (blk_cell BK630.out 0).trans rfl, (blk_cell BK630.out 1).trans rfl, (blk_cell BK630.out 2).trans rfl, (blk_cell BK605.out 0).trans rfl, (blk_cell BK605.out 1).trans rfl, (blk_cell BK605.out 2).trans rfl, (blk_cell BK605.out 3).trans rfl, (blk_cell BK605.out 4).trans rfl, (blk_cell BK605.out 5).trans rfl⟩ (fun hHeld => ?_)
                                    clear hK K
                                    refine norm_ (a' := ?_) ?_ ?_
                                    rotate_left
                                    · show Act.put _ (some 86) _ = _
                                      simp only [Act.put, List.setIfInBounds_toArray, List.set_cons_zero, List.set_cons_succ, i64_w, i32_w]
                                      rfl
                                    refine pure_ (i := 24) (N := some 87) (v := ?_) (a' := ?_) #[true, true, true, true, true, true, true, true, true, true, true, true, true, true, true, true, true, true, true, true, true, true, true, true, true, false] rfl rfl (any_of HT_.out (by kernel_rfl)) (fun _ _ _ h => h) (Or.inl ⟨by rfl, ?_⟩) ?_ ?_
                                    rotate_left
                                    · intro w'
                                      go_simp
                                      with_reducible rfl
                                    rotate_left
                                    · simp only [Act.put, List.setIfInBounds_toArray, List.set_cons_zero, List.set_cons_succ, i64_w, i32_w]
                                      rfl
                                    refine pure_ (i := 25) (N := some 88) (v := ?_) (a' := ?_) #[true, true, true, true, true, true, true, true, true, true, true, true, true, true, true, true, true, true, true, true, true, true, true, true, true, true] rfl rfl (any_of HT_.out (by kernel_rfl)) (fun _ _ _ h => h) (Or.inl ⟨by rfl, ?_⟩) ?_ ?_
                                    rotate_left
                                    · intro w'
                                      go_simp
                                      with_reducible rfl
                                    rotate_left
                                    · simp only [Act.put, List.setIfInBounds_toArray, List.set_cons_zero, List.set_cons_succ, i64_w, i32_w]
                                      rfl
                                    refine done_ (done_of HT_.out (by kernel_rfl)) ?_
                                    try go_wp2
                                    go_roundg k3
                                    case measure => have := HJ4.out; have := HJ11.out; have := HK3.out; omega
                                    case rel => exact ⟨(wrap64 (x56_3 + 1)), (by first | rfl | (simp; done) | (simp [*]; done)), H', ⟨by have := HJ4.out; have := HJ11.out; have := HK3.out; omega⟩, ⟨by (with_reducible repeat (first | apply Kd.S_alloc | apply Kd.S_drewN | apply Kd.S_drew)); exact Kd.S_mono HO_9.out (fun _ hk => trivial)⟩, ⟨by (with_reducible repeat (first | apply Kd.S_alloc | apply Kd.S_drewN | apply Kd.S_drew)); exact Kd.S_mono HO_54.out (fun _ hk => trivial)⟩, ⟨by (with_reducible repeat (first | apply Kd.S_alloc | apply Kd.S_drewN | apply Kd.S_drew)); exact HO_618002.out⟩, ⟨by (with_reducible repeat (first | refine blk_drewN ?_ _ | refine blk_drew ?_ | refine blk_alloc ?_ _)); exact BK605.out⟩, ⟨by (with_reducible repeat (first | refine blk_drewN ?_ _ | refine blk_drew ?_ | refine blk_alloc ?_ _)); exact BK617.out⟩, ⟨by repeat (first | (with_reducible first | exact HB.out | apply below_alloc | apply pw_below_drewN | apply below_drew1 | refine below_set ?_ GE605.out | refine below_set ?_ GE617.out | refine below_set ?_ GE630.out | refine below_set ?_ GE633.out) | exact HB.out)⟩⟩
                                  · replace c42 := Bool.eq_false_iff.mpr c42
                                    subst c42
                                    have H1 : (none) = some r := by rw [if_neg (show ¬ (false = true) by decide)] at H; exact H
                                    clear H
                                    have H := H1
                                    clear H1
                                    exact absurd H (by simp)
                                · rw [if_neg c39] at H
                                  exact absurd H (by simp)
                              · rw [if_neg c38] at H
                                exact absurd H (by simp)
                        · rw [if_neg c34] at H
                          exact absurd H (by simp)
                      · rw [if_neg c33] at H
                        exact absurd H (by simp)
                    · rw [if_neg c32] at H
                      have c32b0 : decide (x56_3 < (t621.length : Int)) = false := decide_eq_false c32
                      clear c32
                      obtain rfl := Option.some.inj H
                      have hnb58 := NB617_605.out
                      have hnc58 := NB605_617.out
                      have hcz59_0 : wr.cell? ⟨gb617, 0, none⟩ = some (.int .u64 t608) := (blk_cell BK617.out 0).trans rfl
                      have hcz59_1 : wr.cell? ⟨gb617, 1, none⟩ = some (.int .u64 t609) := (blk_cell BK617.out 1).trans rfl
                      have hcz59_2 : wr.cell? ⟨gb617, 2, none⟩ = some (.slice Ao18 t610.length co18) := (blk_cell BK617.out 2).trans rfl
                      have hfz59_0 := blk_frozen BK617.out 0
                      have hfz59_1 := blk_frozen BK617.out 1
                      have hfz59_2 := blk_frozen BK617.out 2
                      go_wp2
                      go_ret
                      exact ⟨by first | rfl | (simp [errW_none, errW_some] <;> rfl) | (simp [*, errW_none, errW_some] <;> rfl), by repeat (first | (with_reducible first | exact HB.out | apply below_alloc | apply pw_below_drewN | apply below_drew1 | refine below_set ?_ GE605.out | refine below_set ?_ GE617.out) | exact HB.out)⟩
  · replace c4 := Bool.eq_false_iff.mpr c4
    subst c4
    have H1 : (some true) = some r := by rw [if_neg (show ¬ (false = true) by decide)] at H; exact H
    clear H
    have H := H1
    clear H1
    obtain rfl := Option.some.inj H
    go_enter Tryd.func5, Tryd.ntmps5
    go_wp2_with (first | ((with_reducible refine gate_dst (N := 2) rfl ?_); (try (refine gate_guard (by rfl) ?_; dsimp only)); refine box_event ?hg (N := 2) ?hd (cs := #[.int .i64 a0_0, .int .i64 a0_1, .int .i64 a0_2, .int .u64 a0_3, .int .u64 a0_4, .int .u64 a0_5]) (t := 24) ?hr ?_; (case hd => rfl); (case hg => rfl); (case hr => first | (go_simp; done) | (go_simp; rfl)); intro gb605 hg w60 hbox hb; have n0_ := Aside0.mk (below_step (by repeat (first | (with_reducible first | exact HB.out | apply below_alloc | apply pw_below_drewN | apply below_drew1) | exact HB.out)) hb); have n1_ := Aside0.mk (hbox); have n2_ := Aside0.mk ((by rw [hg]; exact (below_size (by repeat (first | (with_reducible first | exact HB.out | apply below_alloc | apply pw_below_drewN | apply below_drew1) | exact HB.out))) : w.heap.size ≤ gb605)); have n3_ := Aside0.mk ((by rw [hg]; exact (below_size (by repeat (first | (with_reducible first | exact HB.out | apply below_alloc | apply pw_below_drewN | apply below_drew1) | exact HB.out))) : w.heap.size ≤ gb605)); clear HB; have HB := n0_; have BK605 := n1_; have GW605 := n2_; have GE605 := n3_; clear n0_ n1_ n2_ n3_; clear hb hbox hg) | ((with_reducible refine gate_callee (f := 12) rfl ?_); refine goesL_ (some 15) rfl rfl Tryd.func12 (by kernel_rfl) rfl #[.slice A1 l1.length c1] rfl (by (try simp only [List.map_toArray, List.map_cons, List.map_nil]); first | done | rfl | (simp only [List.length_drop, List.length_take]; rfl)) ?_; (with_reducible refine (laws_zzFits2.calls k _ _ l1 false _ ?side1 ?side2 A3.out).mono ?_); (case side1 => repeat (first | exact (Kd.C_below HR1.out HB.out) | (with_reducible refine Kd.C_alloc ?_ _) | (with_reducible refine Kd.C_drewN ?_ _) | (with_reducible refine Kd.C_drew ?_))); (case side2 => exact HC1.out); rintro e w' ⟨rfl, ⟨nd, rfl⟩⟩; refine ⟨_, rfl, ?_⟩))
    go_ret
    exact ⟨by first | rfl | (simp [errW_none, errW_some] <;> rfl) | (simp [*, errW_none, errW_some] <;> rfl), by repeat (first | (with_reducible first | exact HB.out | apply below_alloc | apply pw_below_drewN | apply below_drew1 | refine below_set ?_ GE605.out) | exact HB.out)⟩
end Go.Proofs.YtielnphmcaecdaaDoor.PAll
