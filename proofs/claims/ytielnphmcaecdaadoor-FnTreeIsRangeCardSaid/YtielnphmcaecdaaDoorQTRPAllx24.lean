-- Written by a program of this session (wip/tools)
import Derived.Test.YtielnphmcaecdaaDoorQTRPAllx0
import Derived.Test.YtielnphmcaecdaaDoorQTRTreeMem
import Derived.Test.YtielnphmcaecdaaDoorQTRExtTree
namespace Go.Proofs.YtielnphmcaecdaaDoor.PAll
open Go.RowKit Go.Proofs.YtielnphmcaecdaaDoorW.PrintWords Go.Proofs.YtielnphmcaecdaaDoorW.PrintLast Go.Proofs.YtielnphmcaecdaaDoorW.PrintMore
attribute [local go_sem] max2_int min2_int max_two min_two max_three min_three max_four min_four   -- for this text's walks alone
set_option linter.unusedVariables false
set_option linter.unusedSimpArgs false
def laws_FnTreeIsRange.j0 : Nat → List (List Int) → Int → Bool → Int → Int → Int → Int → Int → Int → Option (Bool)
  | 0, _, _, _, _, _, _, _, _, _ => none
  | k + 1, x1, x2, x39, x741000, x741001, x741002, x741003, x741004, x741005 => if x39 = true then (some true) else (if 0 ≤ x2 then (if x2 ≤ (x1.length : Int) then ((impl_Append.f k x741000 x741001 x741002 x741003 x741004 x741005 0 0 ([] : List (List Int)) (x1.take (x2 : Int).toNat)).bind fun bt747 => ((impl_Append.f k x741000 x741001 x741002 x741003 x741004 x741005 bt747.1 bt747.2.1 bt747.2.2.1 (x1.drop (x2 : Int).toNat)).bind fun bt761 => ((impl_RootHash.f k x741000 x741001 x741002 x741003 x741004 x741005 bt747.1 bt747.2.1 bt747.2.2.1).bind fun bt771 => ((impl_RootHash.f k x741000 x741001 x741002 x741003 x741004 x741005 bt761.1 bt761.2.1 bt761.2.2.1).bind fun bt778 => ((impl_TreeRoot.f k x741000 x741001 x741002 x741003 x741004 x741005 x1 x2).bind fun bt785 => ((impl_TreeRoot.f k x741000 x741001 x741002 x741003 x741004 x741005 x1 (IntKind.u64.wrap ((x1.length : Int)))).bind fun bt789 => (if bt747.2.2.2.2 = true then (if bt761.2.2.2.2 = true then (if bt771.2.2 = true then (if bt778.2.2 = true then (if bt785.2 = true then (if bt789.2 = true then ((spec_SameText.f bt771.1 bt785.1).bind fun t793 => (if t793 = true then ((spec_SameText.f bt778.1 bt789.1).bind fun t794 => (some t794)) else (none))) else (none)) else (none)) else (none)) else (none)) else (none)) else (none)))))))) else (none)) else (none))
def laws_FnTreeIsRange.f (k : Nat) (a0_0 : Int) (a0_1 : Int) (a0_2 : Int) (a0_3 : Int) (a0_4 : Int) (a0_5 : Int) (l1 : List (List Int)) (a2 : Int) : Option (Bool) := (laws_zzFits2.f k l1).bind fun t741 => (if t741 = true then ((laws_logSmall.f k l1).bind fun t742 => (if t742 = true then (if a2 = 0 then (laws_FnTreeIsRange.j0 k l1 a2 true a0_0 a0_1 a0_2 a0_3 a0_4 a0_5) else (laws_FnTreeIsRange.j0 k l1 a2 (decide (a2 > (IntKind.u64.wrap ((l1.length : Int))))) a0_0 a0_1 a0_2 a0_3 a0_4 a0_5)) else (laws_FnTreeIsRange.j0 k l1 a2 true a0_0 a0_1 a0_2 a0_3 a0_4 a0_5))) else (some true))
theorem laws_FnTreeIsRange.mono_l : ∀ k, (∀ y0 y1 y2 y3 y4 y5 y6 y7 y8, LeO (laws_FnTreeIsRange.j0 k y0 y1 y2 y3 y4 y5 y6 y7 y8) (laws_FnTreeIsRange.j0 (k + 1) y0 y1 y2 y3 y4 y5 y6 y7 y8))
  | 0 => fun _ _ _ _ _ _ _ _ _ r h => by simp [laws_FnTreeIsRange.j0] at h
  | k + 1 => by
    have ih0 := laws_FnTreeIsRange.mono_l k
    · intro y0 y1 y2 y3 y4 y5 y6 y7 y8
      unfold laws_FnTreeIsRange.j0
      repeat' first
      | (with_reducible exact ih0 _ _ _ _ _ _ _ _ _)
      | (with_reducible exact impl_Append.mono _ _ _ _ _ _ _ _ _ _ _)
      | (with_reducible exact impl_RootHash.mono _ _ _ _ _ _ _ _ _ _)
      | (with_reducible exact impl_TreeRoot.mono _ _ _ _ _ _ _ _ _)
      | (with_reducible exact laws_logSmall.mono _ _)
      | (with_reducible exact laws_zzFits2.mono _ _)
      | (with_reducible exact LeO.refl _)
      | (with_reducible exact LeO.none _)
      | (with_reducible refine LeO.ite ?_ ?_)
      | (with_reducible refine LeO.bind ?_ (fun _ => ?_))
      | exact ih0 _ _ _ _ _ _ _ _ _
      | exact impl_Append.mono _ _ _ _ _ _ _ _ _ _ _
      | exact impl_RootHash.mono _ _ _ _ _ _ _ _ _ _
      | exact impl_TreeRoot.mono _ _ _ _ _ _ _ _ _
      | exact laws_logSmall.mono _ _
      | exact laws_zzFits2.mono _ _
      | exact LeO.none _
      | refine LeO.ite ?_ ?_
      | refine LeO.bind ?_ (fun _ => ?_)
theorem laws_FnTreeIsRange.mono : ∀ a0 a1 a2 a3 a4 a5 a6 a7 k, LeO (laws_FnTreeIsRange.f k a0 a1 a2 a3 a4 a5 a6 a7) (laws_FnTreeIsRange.f (k + 1) a0 a1 a2 a3 a4 a5 a6 a7) := by
  intro a0 a1 a2 a3 a4 a5 a6 a7 k
  have ih0 := laws_FnTreeIsRange.mono_l k
  unfold laws_FnTreeIsRange.f
  repeat' first
      | (with_reducible exact ih0 _ _ _ _ _ _ _ _ _)
      | (with_reducible exact impl_Append.mono _ _ _ _ _ _ _ _ _ _ _)
      | (with_reducible exact impl_RootHash.mono _ _ _ _ _ _ _ _ _ _)
      | (with_reducible exact impl_TreeRoot.mono _ _ _ _ _ _ _ _ _)
      | (with_reducible exact laws_logSmall.mono _ _)
      | (with_reducible exact laws_zzFits2.mono _ _)
      | (with_reducible exact LeO.refl _)
      | (with_reducible exact LeO.none _)
      | (with_reducible refine LeO.ite ?_ ?_)
      | (with_reducible refine LeO.bind ?_ (fun _ => ?_))
      | exact ih0 _ _ _ _ _ _ _ _ _
      | exact impl_Append.mono _ _ _ _ _ _ _ _ _ _ _
      | exact impl_RootHash.mono _ _ _ _ _ _ _ _ _ _
      | exact impl_TreeRoot.mono _ _ _ _ _ _ _ _ _
      | exact laws_logSmall.mono _ _
      | exact laws_zzFits2.mono _ _
      | exact LeO.none _
      | refine LeO.ite ?_ ?_
      | refine LeO.bind ?_ (fun _ => ?_)
def laws_FnTreeIsRange.T5 : Bool × List (List Nat × List Nat) := (true, [([], []), ([], []), ([], []), ([], []), ([2, 3], [2, 3]), ([0, 1, 4], [0, 1, 4]), ([5], [5]), ([6], [6]), ([6], [6]), ([6], [6]), ([], []), ([10, 7, 5, 0, 1, 2, 3, 4, 5, 6, 7, 10], [7, 10]), ([8, 11, 0, 1, 2, 3, 4, 5, 6, 7, 8, 10, 11], [8]), ([9, 12, 0, 1, 2, 3, 4, 5, 6, 7, 8, 9, 10, 11, 12], [9])])
def laws_FnTreeIsRange.B5 : List Nat := [0, 0, 0, 0, 12, 31, 63, 127, 127, 127, 0, 1279, 3583, 8191]
theorem laws_FnTreeIsRange.tab5 : rtab .any (opsOf Tryd.f9 5) = laws_FnTreeIsRange.T5 := by kernel_rfl
theorem laws_FnTreeIsRange.bits5 : waitsOk laws_FnTreeIsRange.T5.2 laws_FnTreeIsRange.B5 = true := by kernel_rfl
def laws_FnTreeIsRange.T6 : Bool × List (List Nat × List Nat) := (true, [([], []), ([], []), ([], []), ([], []), ([2, 3], [2, 3]), ([0, 1, 4], [0, 1, 4]), ([5], [5]), ([6], [6]), ([6], [6]), ([6], [6]), ([], []), ([10, 7, 5, 0, 1, 2, 3, 4, 5, 6, 7, 10], [7, 10]), ([8, 11, 0, 1, 2, 3, 4, 5, 6, 7, 8, 10, 11], [8]), ([9, 12, 0, 1, 2, 3, 4, 5, 6, 7, 8, 9, 10, 11, 12], [9])])
def laws_FnTreeIsRange.B6 : List Nat := [0, 0, 0, 0, 12, 31, 63, 127, 127, 127, 0, 1279, 3583, 8191]
theorem laws_FnTreeIsRange.tab6 : rtab .any (opsOf Tryd.f9 6) = laws_FnTreeIsRange.T6 := by kernel_rfl
theorem laws_FnTreeIsRange.bits6 : waitsOk laws_FnTreeIsRange.T6.2 laws_FnTreeIsRange.B6 = true := by kernel_rfl
set_option maxHeartbeats 8000000 in
set_option maxRecDepth 100000 in
theorem laws_FnTreeIsRange.calls (k : Nat) (a0_0 : Int) (a0_1 : Int) (a0_2 : Int) (a0_3 : Int) (a0_4 : Int) (a0_5 : Int) (A1 : Option Addr) (c1 : Nat) (l1 : List (List Int)) (a2 : Int) (r : Bool) (w : World) (hG : Glob w) (hr1 : Kd.C (Kd.slice 5 (Kd.int .u8)) w A1 l1.length l1) (hc1 : l1.length ≤ c1) (h : laws_FnTreeIsRange.f k a0_0 a0_1 a0_2 a0_3 a0_4 a0_5 l1 a2 = some r) :
    Calls Tryd.prog 9 #[.agg #[.int .i64 a0_0, .int .i64 a0_1, .int .i64 a0_2, .int .u64 a0_3, .int .u64 a0_4, .int .u64 a0_5], .slice A1 l1.length c1, .int .u64 a2] w fun e w' => e = .returned (.bool r) ∧ Below w.heap.size w w' := by
  have hu24 := Tryd.underlying24
  have hu34 := Tryd.underlying34
  have HR1 := Aside0.mk hr1
  have HC1 := Aside0.mk hc1
  clear hr1 hc1
  have HB := Aside0.mk (Below.refl w.heap.size w)
  have H : ((laws_zzFits2.f k l1).bind fun t741 => (if t741 = true then ((laws_logSmall.f k l1).bind fun t742 => (if t742 = true then (if a2 = 0 then (laws_FnTreeIsRange.j0 k l1 a2 true a0_0 a0_1 a0_2 a0_3 a0_4 a0_5) else (laws_FnTreeIsRange.j0 k l1 a2 (decide (a2 > (IntKind.u64.wrap ((l1.length : Int))))) a0_0 a0_1 a0_2 a0_3 a0_4 a0_5)) else (laws_FnTreeIsRange.j0 k l1 a2 true a0_0 a0_1 a0_2 a0_3 a0_4 a0_5))) else (some true))) = some r := h
  clear h
  replace H := Option.bind_eq_some_iff.mp H
  obtain ⟨t741, A40, H⟩ := H
  replace H : (if t741 = true then ((laws_logSmall.f k l1).bind fun t742 => (if t742 = true then (if a2 = 0 then (laws_FnTreeIsRange.j0 k l1 a2 true a0_0 a0_1 a0_2 a0_3 a0_4 a0_5) else (laws_FnTreeIsRange.j0 k l1 a2 (decide (a2 > (IntKind.u64.wrap ((l1.length : Int))))) a0_0 a0_1 a0_2 a0_3 a0_4 a0_5)) else (laws_FnTreeIsRange.j0 k l1 a2 true a0_0 a0_1 a0_2 a0_3 a0_4 a0_5))) else (some true)) = some r := H
  have A4 := Aside0.mk A40
  clear A40
  by_cases c5 : t741 = true
  · subst c5
    have H1 : ((laws_logSmall.f k l1).bind fun t742 => (if t742 = true then (if a2 = 0 then (laws_FnTreeIsRange.j0 k l1 a2 true a0_0 a0_1 a0_2 a0_3 a0_4 a0_5) else (laws_FnTreeIsRange.j0 k l1 a2 (decide (a2 > (IntKind.u64.wrap ((l1.length : Int))))) a0_0 a0_1 a0_2 a0_3 a0_4 a0_5)) else (laws_FnTreeIsRange.j0 k l1 a2 true a0_0 a0_1 a0_2 a0_3 a0_4 a0_5))) = some r := by rw [if_pos rfl] at H; exact H
    clear H
    have H := H1
    clear H1
    have HC6 := Aside0.mk H
    clear H
    go_enter Tryd.func9, Tryd.ntmps9
    go_upto_region 3 with (first | ((with_reducible refine gate_dst (N := 3) rfl ?_); (try (refine gate_guard (by rfl) ?_; dsimp only)); refine box_event ?hg (N := 3) ?hd (cs := #[.int .i64 a0_0, .int .i64 a0_1, .int .i64 a0_2, .int .u64 a0_3, .int .u64 a0_4, .int .u64 a0_5]) (t := 24) ?hr ?_; (case hd => rfl); (case hg => rfl); (case hr => first | (go_simp; done) | (go_simp; rfl)); intro gb740 hg w7 hbox hb; have n0_ := Aside0.mk (below_step (by repeat (first | (with_reducible first | exact HB.out | apply below_alloc | apply pw_below_drewN | apply below_drew1) | exact HB.out)) hb); have n1_ := Aside0.mk (hbox); have n2_ := Aside0.mk ((by rw [hg]; exact (below_size (by repeat (first | (with_reducible first | exact HB.out | apply below_alloc | apply pw_below_drewN | apply below_drew1) | exact HB.out))) : w.heap.size ≤ gb740)); have n3_ := Aside0.mk ((by rw [hg]; exact (below_size (by repeat (first | (with_reducible first | exact HB.out | apply below_alloc | apply pw_below_drewN | apply below_drew1) | exact HB.out))) : w.heap.size ≤ gb740)); clear HB; have HB := n0_; have BK740 := n1_; have GW740 := n2_; have GE740 := n3_; clear n0_ n1_ n2_ n3_; clear hb hbox hg) | ((with_reducible refine gate_callee (f := 12) rfl ?_); refine goesL_ (some 24) rfl rfl Tryd.func12 (by kernel_rfl) rfl #[.slice A1 l1.length c1] rfl (by (try simp only [List.map_toArray, List.map_cons, List.map_nil]); first | done | rfl | (simp only [List.length_drop, List.length_take]; rfl)) ?_; (with_reducible refine (laws_zzFits2.calls k _ _ l1 true _ ?side1 ?side2 A4.out).mono ?_); (case side1 => repeat (first | exact (Kd.C_below HR1.out HB.out) | (with_reducible refine Kd.C_alloc ?_ _) | (with_reducible refine Kd.C_drewN ?_ _) | (with_reducible refine Kd.C_drew ?_))); (case side2 => exact HC1.out); rintro e w' ⟨rfl, ⟨nd, rfl⟩⟩; refine ⟨_, rfl, ?_⟩))
    (try simp only [Act.put, List.setIfInBounds_toArray, List.set_cons_zero, List.set_cons_succ])
    go_cut [39] (fun v39 wc => ∃ (kq : Nat) (x39_5 : Bool), v39 = .bool x39_5 ∧ Aside0 (laws_FnTreeIsRange.j0 kq l1 a2 x39_5 a0_0 a0_1 a0_2 a0_3 a0_4 a0_5 = some r) ∧ Aside0 (kq ≤ k) ∧ Aside0 (wc.heap[gb740]? = some (.cells #[.int .i64 a0_0, .int .i64 a0_1, .int .i64 a0_2, .int .u64 a0_3, .int .u64 a0_4, .int .u64 a0_5] 24 (0, 0))) ∧ Aside0 (Below w.heap.size w wc))
    case first =>
      have H := HC6.out
      clear HC6
      replace H := Option.bind_eq_some_iff.mp H
      obtain ⟨t742, A80, H⟩ := H
      replace H : (if t742 = true then (if a2 = 0 then (laws_FnTreeIsRange.j0 k l1 a2 true a0_0 a0_1 a0_2 a0_3 a0_4 a0_5) else (laws_FnTreeIsRange.j0 k l1 a2 (decide (a2 > (IntKind.u64.wrap ((l1.length : Int))))) a0_0 a0_1 a0_2 a0_3 a0_4 a0_5)) else (laws_FnTreeIsRange.j0 k l1 a2 true a0_0 a0_1 a0_2 a0_3 a0_4 a0_5)) = some r := H
      have A8 := Aside0.mk A80
      clear A80
      by_cases c9 : t742 = true
      · subst c9
        have H1 : (if a2 = 0 then (laws_FnTreeIsRange.j0 k l1 a2 true a0_0 a0_1 a0_2 a0_3 a0_4 a0_5) else (laws_FnTreeIsRange.j0 k l1 a2 (decide (a2 > (IntKind.u64.wrap ((l1.length : Int))))) a0_0 a0_1 a0_2 a0_3 a0_4 a0_5)) = some r := by rw [if_pos rfl] at H; exact H
        clear H
        have H := H1
        clear H1
        by_cases c10 : a2 = 0
        · rw [if_pos c10] at H
          have c10b0 : (a2 == 0) = true := beq_iff_eq.mpr c10
          have c10b1 : (a2 != 0) = false := bne_eq_false_iff_eq.mpr c10
          clear c10
          (first | rw [c10b0] | (simp only [i64_w, i32_w]; rw [c10b0]) | skip)
          have H' := Aside0.mk H
          clear H
          go_wp2_with (first | ((with_reducible refine gate_callee (f := 13) rfl ?_); refine goesL_ (some 27) rfl rfl Tryd.func13 (by kernel_rfl) rfl #[.slice A1 l1.length c1] rfl (by (try simp only [List.map_toArray, List.map_cons, List.map_nil]); first | done | rfl | (simp only [List.length_drop, List.length_take]; rfl)) ?_; (with_reducible refine (laws_logSmall.calls k _ _ l1 true _ ?side1 ?side2 A8.out).mono ?_); (case side1 => repeat (first | exact (Kd.C_below HR1.out HB.out) | (with_reducible refine Kd.C_alloc ?_ _) | (with_reducible refine Kd.C_drewN ?_ _) | (with_reducible refine Kd.C_drew ?_))); (case side2 => exact HC1.out); rintro e w' ⟨rfl, ⟨nd, rfl⟩⟩; refine ⟨_, rfl, ?_⟩))
          go_meet
          case rel => exact ⟨_, (true), (by first | rfl | (simp; done) | (simp [*]; done)), H', ⟨by first | omega | exact Nat.le_refl _⟩, ⟨by (with_reducible repeat (first | refine blk_drewN ?_ _ | refine blk_drew ?_ | refine blk_alloc ?_ _)); exact BK740.out⟩, ⟨by repeat (first | (with_reducible first | exact HB.out | apply below_alloc | apply pw_below_drewN | apply below_drew1 | refine below_set ?_ GE740.out) | exact HB.out)⟩⟩
        · rw [if_neg c10] at H
          have c10b0 : (a2 == 0) = false := beq_eq_false_iff_ne.mpr c10
          have c10b1 : (a2 != 0) = true := bne_iff_ne.mpr c10
          (first | rw [c10b0] | (simp only [i64_w, i32_w]; rw [c10b0]) | skip)
          have H' := Aside0.mk H
          clear H
          go_wp2_with (first | ((with_reducible refine gate_callee (f := 13) rfl ?_); refine goesL_ (some 27) rfl rfl Tryd.func13 (by kernel_rfl) rfl #[.slice A1 l1.length c1] rfl (by (try simp only [List.map_toArray, List.map_cons, List.map_nil]); first | done | rfl | (simp only [List.length_drop, List.length_take]; rfl)) ?_; (with_reducible refine (laws_logSmall.calls k _ _ l1 true _ ?side1 ?side2 A8.out).mono ?_); (case side1 => repeat (first | exact (Kd.C_below HR1.out HB.out) | (with_reducible refine Kd.C_alloc ?_ _) | (with_reducible refine Kd.C_drewN ?_ _) | (with_reducible refine Kd.C_drew ?_))); (case side2 => exact HC1.out); rintro e w' ⟨rfl, ⟨nd, rfl⟩⟩; refine ⟨_, rfl, ?_⟩))
          go_meet
          case rel => exact ⟨_, (decide (a2 > (IntKind.u64.wrap ((l1.length : Int))))), (by first | rfl | (simp; done) | (simp [*]; done)), H', ⟨by first | omega | exact Nat.le_refl _⟩, ⟨by (with_reducible repeat (first | refine blk_drewN ?_ _ | refine blk_drew ?_ | refine blk_alloc ?_ _)); exact BK740.out⟩, ⟨by repeat (first | (with_reducible first | exact HB.out | apply below_alloc | apply pw_below_drewN | apply below_drew1 | refine below_set ?_ GE740.out) | exact HB.out)⟩⟩
      · replace c9 := Bool.eq_false_iff.mpr c9
        subst c9
        have H1 : (laws_FnTreeIsRange.j0 k l1 a2 true a0_0 a0_1 a0_2 a0_3 a0_4 a0_5) = some r := by rw [if_neg (show ¬ (false = true) by decide)] at H; exact H
        clear H
        have H := H1
        clear H1
        have H' := Aside0.mk H
        clear H
        go_wp2_with (first | ((with_reducible refine gate_callee (f := 13) rfl ?_); refine goesL_ (some 27) rfl rfl Tryd.func13 (by kernel_rfl) rfl #[.slice A1 l1.length c1] rfl (by (try simp only [List.map_toArray, List.map_cons, List.map_nil]); first | done | rfl | (simp only [List.length_drop, List.length_take]; rfl)) ?_; (with_reducible refine (laws_logSmall.calls k _ _ l1 false _ ?side1 ?side2 A8.out).mono ?_); (case side1 => repeat (first | exact (Kd.C_below HR1.out HB.out) | (with_reducible refine Kd.C_alloc ?_ _) | (with_reducible refine Kd.C_drewN ?_ _) | (with_reducible refine Kd.C_drew ?_))); (case side2 => exact HC1.out); rintro e w' ⟨rfl, ⟨nd, rfl⟩⟩; refine ⟨_, rfl, ?_⟩))
        go_meet
        case rel => exact ⟨_, (true), (by first | rfl | (simp; done) | (simp [*]; done)), H', ⟨by first | omega | exact Nat.le_refl _⟩, ⟨by (with_reducible repeat (first | refine blk_drewN ?_ _ | refine blk_drew ?_ | refine blk_alloc ?_ _)); exact BK740.out⟩, ⟨by repeat (first | (with_reducible first | exact HB.out | apply below_alloc | apply pw_below_drewN | apply below_drew1 | refine below_set ?_ GE740.out) | exact HB.out)⟩⟩
    case rest =>
      clear HC6
      try clear c1
      try clear p2
      try clear c5
      try clear c9
      try clear c10
      try clear c10b0
      try clear c10b1
      obtain ⟨kq, x39_5, rfl, HA, HJ5, BK740, HB⟩ := hcut
      cases kq with
      | zero => exact absurd HA.out (by simp [laws_FnTreeIsRange.j0])
      | succ kj5 =>
        have H := HA.out
        clear HA
        simp only [laws_FnTreeIsRange.j0] at H
        by_cases c11 : x39_5 = true
        · subst c11
          have H1 : (some true) = some r := by rw [if_pos rfl] at H; exact H
          clear H
          have H := H1
          clear H1
          obtain rfl := Option.some.inj H
          go_wp2
          go_ret
          exact ⟨by first | rfl | (simp [errW_none, errW_some] <;> rfl) | (simp [*, errW_none, errW_some] <;> rfl), by repeat (first | (with_reducible first | exact HB.out | apply below_alloc | apply pw_below_drewN | apply below_drew1 | refine below_set ?_ GE740.out) | exact HB.out)⟩
        · replace c11 := Bool.eq_false_iff.mpr c11
          subst c11
          have H1 : (if 0 ≤ a2 then (if a2 ≤ (l1.length : Int) then ((impl_Append.f kj5 a0_0 a0_1 a0_2 a0_3 a0_4 a0_5 0 0 ([] : List (List Int)) (l1.take (a2 : Int).toNat)).bind fun bt747 => ((impl_Append.f kj5 a0_0 a0_1 a0_2 a0_3 a0_4 a0_5 bt747.1 bt747.2.1 bt747.2.2.1 (l1.drop (a2 : Int).toNat)).bind fun bt761 => ((impl_RootHash.f kj5 a0_0 a0_1 a0_2 a0_3 a0_4 a0_5 bt747.1 bt747.2.1 bt747.2.2.1).bind fun bt771 => ((impl_RootHash.f kj5 a0_0 a0_1 a0_2 a0_3 a0_4 a0_5 bt761.1 bt761.2.1 bt761.2.2.1).bind fun bt778 => ((impl_TreeRoot.f kj5 a0_0 a0_1 a0_2 a0_3 a0_4 a0_5 l1 a2).bind fun bt785 => ((impl_TreeRoot.f kj5 a0_0 a0_1 a0_2 a0_3 a0_4 a0_5 l1 (IntKind.u64.wrap ((l1.length : Int)))).bind fun bt789 => (if bt747.2.2.2.2 = true then (if bt761.2.2.2.2 = true then (if bt771.2.2 = true then (if bt778.2.2 = true then (if bt785.2 = true then (if bt789.2 = true then ((spec_SameText.f bt771.1 bt785.1).bind fun t793 => (if t793 = true then ((spec_SameText.f bt778.1 bt789.1).bind fun t794 => (some t794)) else (none))) else (none)) else (none)) else (none)) else (none)) else (none)) else (none)))))))) else (none)) else (none)) = some r := by rw [if_neg (show ¬ (false = true) by decide)] at H; exact H
          clear H
          have H := H1
          clear H1
          by_cases c12 : 0 ≤ a2
          · rw [if_pos c12] at H
            have c12b0 := eq_true c12
            have c12b1 : decide (0 ≤ a2) = true := decide_eq_true c12
            clear c12
            by_cases c13 : a2 ≤ (l1.length : Int)
            · rw [if_pos c13] at H
              have c13b0 := eq_true c13
              have c13b1 : decide (a2 ≤ (l1.length : Int)) = true := decide_eq_true c13
              clear c13
              obtain ⟨y743, hy743⟩ : ∃ y_ : List (List Int), y_ = (l1.take (a2 : Int).toNat) := ⟨_, rfl⟩
              replace H : ((impl_Append.f kj5 a0_0 a0_1 a0_2 a0_3 a0_4 a0_5 0 0 ([] : List (List Int)) y743).bind fun bt747 => ((impl_Append.f kj5 a0_0 a0_1 a0_2 a0_3 a0_4 a0_5 bt747.1 bt747.2.1 bt747.2.2.1 (l1.drop (a2 : Int).toNat)).bind fun bt761 => ((impl_RootHash.f kj5 a0_0 a0_1 a0_2 a0_3 a0_4 a0_5 bt747.1 bt747.2.1 bt747.2.2.1).bind fun bt771 => ((impl_RootHash.f kj5 a0_0 a0_1 a0_2 a0_3 a0_4 a0_5 bt761.1 bt761.2.1 bt761.2.2.1).bind fun bt778 => ((impl_TreeRoot.f kj5 a0_0 a0_1 a0_2 a0_3 a0_4 a0_5 l1 a2).bind fun bt785 => ((impl_TreeRoot.f kj5 a0_0 a0_1 a0_2 a0_3 a0_4 a0_5 l1 (IntKind.u64.wrap ((l1.length : Int)))).bind fun bt789 => (if bt747.2.2.2.2 = true then (if bt761.2.2.2.2 = true then (if bt771.2.2 = true then (if bt778.2.2 = true then (if bt785.2 = true then (if bt789.2 = true then ((spec_SameText.f bt771.1 bt785.1).bind fun t793 => (if t793 = true then ((spec_SameText.f bt778.1 bt789.1).bind fun t794 => (some t794)) else (none))) else (none)) else (none)) else (none)) else (none)) else (none)) else (none)))))))) = some r := by first | (rw [hy743]; with_reducible exact H) | (have H2_ := (Option.bind_some _ _).symm.trans H; rw [hy743]; with_reducible exact H2_) | (have H2_ := (Option.bind_some _ _).symm.trans H; with_reducible exact H2_) | with_reducible exact H | (rw [hy743]; exact H) | exact H
              have Ny743 := Aside0.mk hy743
              clear hy743
              replace H := Option.bind_eq_some_iff.mp H
              obtain ⟨⟨t747, t748, t749, t752, t755⟩, A140, H⟩ := H
              replace H : ((impl_Append.f kj5 a0_0 a0_1 a0_2 a0_3 a0_4 a0_5 t747 t748 t749 (l1.drop (a2 : Int).toNat)).bind fun bt761 => ((impl_RootHash.f kj5 a0_0 a0_1 a0_2 a0_3 a0_4 a0_5 t747 t748 t749).bind fun bt771 => ((impl_RootHash.f kj5 a0_0 a0_1 a0_2 a0_3 a0_4 a0_5 bt761.1 bt761.2.1 bt761.2.2.1).bind fun bt778 => ((impl_TreeRoot.f kj5 a0_0 a0_1 a0_2 a0_3 a0_4 a0_5 l1 a2).bind fun bt785 => ((impl_TreeRoot.f kj5 a0_0 a0_1 a0_2 a0_3 a0_4 a0_5 l1 (IntKind.u64.wrap ((l1.length : Int)))).bind fun bt789 => (if t755 = true then (if bt761.2.2.2.2 = true then (if bt771.2.2 = true then (if bt778.2.2 = true then (if bt785.2 = true then (if bt789.2 = true then ((spec_SameText.f bt771.1 bt785.1).bind fun t793 => (if t793 = true then ((spec_SameText.f bt778.1 bt789.1).bind fun t794 => (some t794)) else (none))) else (none)) else (none)) else (none)) else (none)) else (none)) else (none))))))) = some r := H
              have A14 := Aside0.mk A140
              clear A140
              have c15b0 := eq_true (of_decide_eq_true (by first | (with_reducible assumption) | assumption) : 0 ≤ a2)
              have c16b0 := eq_true (of_decide_eq_true (by first | (with_reducible assumption) | assumption) : a2 ≤ (l1.length : Int))
              obtain ⟨y757, hy757⟩ : ∃ y_ : List (List Int), y_ = (l1.drop (a2 : Int).toNat) := ⟨_, rfl⟩
              replace H : ((impl_Append.f kj5 a0_0 a0_1 a0_2 a0_3 a0_4 a0_5 t747 t748 t749 y757).bind fun bt761 => ((impl_RootHash.f kj5 a0_0 a0_1 a0_2 a0_3 a0_4 a0_5 t747 t748 t749).bind fun bt771 => ((impl_RootHash.f kj5 a0_0 a0_1 a0_2 a0_3 a0_4 a0_5 bt761.1 bt761.2.1 bt761.2.2.1).bind fun bt778 => ((impl_TreeRoot.f kj5 a0_0 a0_1 a0_2 a0_3 a0_4 a0_5 l1 a2).bind fun bt785 => ((impl_TreeRoot.f kj5 a0_0 a0_1 a0_2 a0_3 a0_4 a0_5 l1 (IntKind.u64.wrap ((l1.length : Int)))).bind fun bt789 => (if t755 = true then (if bt761.2.2.2.2 = true then (if bt771.2.2 = true then (if bt778.2.2 = true then (if bt785.2 = true then (if bt789.2 = true then ((spec_SameText.f bt771.1 bt785.1).bind fun t793 => (if t793 = true then ((spec_SameText.f bt778.1 bt789.1).bind fun t794 => (some t794)) else (none))) else (none)) else (none)) else (none)) else (none)) else (none)) else (none))))))) = some r := by first | (rw [hy757]; with_reducible exact H) | (have H2_ := (Option.bind_some _ _).symm.trans H; rw [hy757]; with_reducible exact H2_) | (have H2_ := (Option.bind_some _ _).symm.trans H; with_reducible exact H2_) | with_reducible exact H | (rw [hy757]; exact H) | exact H
              have Ny757 := Aside0.mk hy757
              clear hy757
              replace H := Option.bind_eq_some_iff.mp H
              obtain ⟨⟨t761, t762, t763, t766, t769⟩, A170, H⟩ := H
              replace H : ((impl_RootHash.f kj5 a0_0 a0_1 a0_2 a0_3 a0_4 a0_5 t747 t748 t749).bind fun bt771 => ((impl_RootHash.f kj5 a0_0 a0_1 a0_2 a0_3 a0_4 a0_5 t761 t762 t763).bind fun bt778 => ((impl_TreeRoot.f kj5 a0_0 a0_1 a0_2 a0_3 a0_4 a0_5 l1 a2).bind fun bt785 => ((impl_TreeRoot.f kj5 a0_0 a0_1 a0_2 a0_3 a0_4 a0_5 l1 (IntKind.u64.wrap ((l1.length : Int)))).bind fun bt789 => (if t755 = true then (if t769 = true then (if bt771.2.2 = true then (if bt778.2.2 = true then (if bt785.2 = true then (if bt789.2 = true then ((spec_SameText.f bt771.1 bt785.1).bind fun t793 => (if t793 = true then ((spec_SameText.f bt778.1 bt789.1).bind fun t794 => (some t794)) else (none))) else (none)) else (none)) else (none)) else (none)) else (none)) else (none)))))) = some r := H
              have A17 := Aside0.mk A170
              clear A170
              replace H := Option.bind_eq_some_iff.mp H
              obtain ⟨⟨t771, t774, t777⟩, A180, H⟩ := H
              replace H : ((impl_RootHash.f kj5 a0_0 a0_1 a0_2 a0_3 a0_4 a0_5 t761 t762 t763).bind fun bt778 => ((impl_TreeRoot.f kj5 a0_0 a0_1 a0_2 a0_3 a0_4 a0_5 l1 a2).bind fun bt785 => ((impl_TreeRoot.f kj5 a0_0 a0_1 a0_2 a0_3 a0_4 a0_5 l1 (IntKind.u64.wrap ((l1.length : Int)))).bind fun bt789 => (if t755 = true then (if t769 = true then (if t777 = true then (if bt778.2.2 = true then (if bt785.2 = true then (if bt789.2 = true then ((spec_SameText.f t771 bt785.1).bind fun t793 => (if t793 = true then ((spec_SameText.f bt778.1 bt789.1).bind fun t794 => (some t794)) else (none))) else (none)) else (none)) else (none)) else (none)) else (none)) else (none))))) = some r := H
              have A18 := Aside0.mk A180
              clear A180
              replace H := Option.bind_eq_some_iff.mp H
              obtain ⟨⟨t778, t781, t784⟩, A190, H⟩ := H
              replace H : ((impl_TreeRoot.f kj5 a0_0 a0_1 a0_2 a0_3 a0_4 a0_5 l1 a2).bind fun bt785 => ((impl_TreeRoot.f kj5 a0_0 a0_1 a0_2 a0_3 a0_4 a0_5 l1 (IntKind.u64.wrap ((l1.length : Int)))).bind fun bt789 => (if t755 = true then (if t769 = true then (if t777 = true then (if t784 = true then (if bt785.2 = true then (if bt789.2 = true then ((spec_SameText.f t771 bt785.1).bind fun t793 => (if t793 = true then ((spec_SameText.f t778 bt789.1).bind fun t794 => (some t794)) else (none))) else (none)) else (none)) else (none)) else (none)) else (none)) else (none)))) = some r := H
              have A19 := Aside0.mk A190
              clear A190
              replace H := Option.bind_eq_some_iff.mp H
              obtain ⟨⟨t785, t788⟩, A200, H⟩ := H
              replace H : ((impl_TreeRoot.f kj5 a0_0 a0_1 a0_2 a0_3 a0_4 a0_5 l1 (IntKind.u64.wrap ((l1.length : Int)))).bind fun bt789 => (if t755 = true then (if t769 = true then (if t777 = true then (if t784 = true then (if t788 = true then (if bt789.2 = true then ((spec_SameText.f t771 t785).bind fun t793 => (if t793 = true then ((spec_SameText.f t778 bt789.1).bind fun t794 => (some t794)) else (none))) else (none)) else (none)) else (none)) else (none)) else (none)) else (none))) = some r := H
              have A20 := Aside0.mk A200
              clear A200
              replace H := Option.bind_eq_some_iff.mp H
              obtain ⟨⟨t789, t792⟩, A210, H⟩ := H
              replace H : (if t755 = true then (if t769 = true then (if t777 = true then (if t784 = true then (if t788 = true then (if t792 = true then ((spec_SameText.f t771 t785).bind fun t793 => (if t793 = true then ((spec_SameText.f t778 t789).bind fun t794 => (some t794)) else (none))) else (none)) else (none)) else (none)) else (none)) else (none)) else (none)) = some r := H
              have A21 := Aside0.mk A210
              clear A210
              by_cases c22 : t755 = true
              · subst c22
                have H1 : (if t769 = true then (if t777 = true then (if t784 = true then (if t788 = true then (if t792 = true then ((spec_SameText.f t771 t785).bind fun t793 => (if t793 = true then ((spec_SameText.f t778 t789).bind fun t794 => (some t794)) else (none))) else (none)) else (none)) else (none)) else (none)) else (none)) = some r := by rw [if_pos rfl] at H; exact H
                clear H
                have H := H1
                clear H1
                by_cases c23 : t769 = true
                · subst c23
                  have H1 : (if t777 = true then (if t784 = true then (if t788 = true then (if t792 = true then ((spec_SameText.f t771 t785).bind fun t793 => (if t793 = true then ((spec_SameText.f t778 t789).bind fun t794 => (some t794)) else (none))) else (none)) else (none)) else (none)) else (none)) = some r := by rw [if_pos rfl] at H; exact H
                  clear H
                  have H := H1
                  clear H1
                  by_cases c24 : t777 = true
                  · subst c24
                    have H1 : (if t784 = true then (if t788 = true then (if t792 = true then ((spec_SameText.f t771 t785).bind fun t793 => (if t793 = true then ((spec_SameText.f t778 t789).bind fun t794 => (some t794)) else (none))) else (none)) else (none)) else (none)) = some r := by rw [if_pos rfl] at H; exact H
                    clear H
                    have H := H1
                    clear H1
                    by_cases c25 : t784 = true
                    · subst c25
                      have H1 : (if t788 = true then (if t792 = true then ((spec_SameText.f t771 t785).bind fun t793 => (if t793 = true then ((spec_SameText.f t778 t789).bind fun t794 => (some t794)) else (none))) else (none)) else (none)) = some r := by rw [if_pos rfl] at H; exact H
                      clear H
                      have H := H1
                      clear H1
                      by_cases c26 : t788 = true
                      · subst c26
                        have H1 : (if t792 = true then ((spec_SameText.f t771 t785).bind fun t793 => (if t793 = true then ((spec_SameText.f t778 t789).bind fun t794 => (some t794)) else (none))) else (none)) = some r := by rw [if_pos rfl] at H; exact H
                        clear H
                        have H := H1
                        clear H1
                        by_cases c27 : t792 = true
                        · subst c27
                          have H1 : ((spec_SameText.f t771 t785).bind fun t793 => (if t793 = true then ((spec_SameText.f t778 t789).bind fun t794 => (some t794)) else (none))) = some r := by rw [if_pos rfl] at H; exact H
                          clear H
                          have H := H1
                          clear H1
                          replace H := Option.bind_eq_some_iff.mp H
                          obtain ⟨t793, A280, H⟩ := H
                          replace H : (if t793 = true then ((spec_SameText.f t778 t789).bind fun t794 => (some t794)) else (none)) = some r := H
                          have A28 := Aside0.mk A280
                          clear A280
                          by_cases c29 : t793 = true
                          · subst c29
                            have H1 : ((spec_SameText.f t778 t789).bind fun t794 => (some t794)) = some r := by rw [if_pos rfl] at H; exact H
                            clear H
                            have H := H1
                            clear H1
                            replace H := Option.bind_eq_some_iff.mp H
                            obtain ⟨t794, A300, H⟩ := H
                            replace H : (some t794) = some r := H
                            have A30 := Aside0.mk A300
                            clear A300
                            obtain rfl := Option.some.inj H
                            try go_wp2
                            (try (rw [drewN_self wc]; generalize hq_ : World.drewN wc _ = wc; have n0_ : Aside0 (wc.heap[gb740]? = some (.cells #[.int .i64 a0_0, .int .i64 a0_1, .int .i64 a0_2, .int .u64 a0_3, .int .u64 a0_4, .int .u64 a0_5] 24 (0, 0))) := ⟨by rw [← hq_]; exact (by (with_reducible repeat (first | refine blk_drewN ?_ _ | refine blk_drew ?_ | refine blk_alloc ?_ _)); exact BK740.out)⟩; have n1_ : Aside0 (Below w.heap.size w wc) := ⟨by rw [← hq_]; exact (by repeat (first | (with_reducible first | exact HB.out | apply below_alloc | apply pw_below_drewN | apply below_drew1 | refine below_set ?_ GE740.out) | exact HB.out))⟩; clear BK740 HB hq_; have BK740 := n0_; have HB := n1_; clear n0_ n1_))
                            have n0_ := Aside0.mk (blk_drew BK740.out)
                            have n1_ := Aside0.mk (below_drew1 HB.out)
                            clear BK740
                            clear HB
                            have BK740 := n0_
                            have HB := n1_
                            clear n0_ n1_
                            have q32 : (a2 : Int) ≤ ((l1.length : Int) : Int) := of_decide_eq_true (by first | (with_reducible assumption) | assumption)
                            obtain ⟨i032, hi032, _, hsz32, _⟩ := info_parts info27
                            have hroom32 : l1.length ≤ c1 := HC1.out
                            have hC32 : Kd.C (Kd.slice 5 (Kd.int .u8)) _ A1 l1.length l1 := HR1.out
                            have hcut32 := cut_to (P := Tryd.prog) 25 27 .i64 Tryd.underlying25 hi032 A1 l1.length c1 a2 (of_decide_eq_true (by first | (with_reducible assumption) | assumption)) q32 hroom32
                            have hcut32u := cut_to (P := Tryd.prog) 25 27 .u64 Tryd.underlying25 hi032 A1 l1.length c1 a2 (of_decide_eq_true (by first | (with_reducible assumption) | assumption)) q32 hroom32
                            have hr32 := Kd.C_take (m := (a2 : Int).toNat) hC32 (by omega)
                            have hy32 : y743.length = (a2 : Int).toNat := (by rw [Ny743.out, List.length_take]; omega)
                            rw [← Ny743.out] at hr32
                            rw [← hy32] at hcut32 hcut32u
                            have HR746 := Aside0.mk hr32
                            have HC746 := Aside0.mk (show y743.length ≤ c1 from by omega)
                            clear hr32 hC32 hroom32 hi032 hsz32
                            have KY32 := Aside0.mk hy32
                            clear hy32
                            replace q32 := eq_true q32
                            refine start_ (n := 14) (S := fun w' => w'.cell? ⟨gb740, 0, none⟩ = some (.int .i64 a0_0) ∧ w'.cell? ⟨gb740, 1, none⟩ = some (.int .i64 a0_1) ∧ w'.cell? ⟨gb740, 2, none⟩ = some (.int .i64 a0_2) ∧ w'.cell? ⟨gb740, 3, none⟩ = some (.int .u64 a0_3) ∧ w'.cell? ⟨gb740, 4, none⟩ = some (.int .u64 a0_4) ∧ w'.cell? ⟨gb740, 5, none⟩ = some (.int .u64 a0_5)) (ds := []) #[false, false, false, false, false, false, false, false, false, false, false, false, false, false] (by kernel_rfl) rfl rfl ⟨(blk_cell BK740.out 0).trans rfl, (blk_cell BK740.out 1).trans rfl, (blk_cell BK740.out 2).trans rfl, (blk_cell BK740.out 3).trans rfl, (blk_cell BK740.out 4).trans rfl, (blk_cell BK740.out 5).trans rfl⟩ (fun hHeld => ?_); refine with_tabW laws_FnTreeIsRange.tab5 laws_FnTreeIsRange.bits5 (fun HT_ HW_ => ?_)
                            generalize wc.drew = w31 at BK740 HB HR746 hHeld ⊢
                            refine pure_ (i := 1) (N := some 42) (v := ?_) (a' := ?_) #[false, true, false, false, false, false, false, false, false, false, false, false, false, false] rfl rfl (any_of HT_.out (by kernel_rfl)) (fun _ _ _ h => h) (Or.inl ⟨by rfl, ?_⟩) ?_ ?_
                            rotate_left
                            · intro w'
                              go_simp
                              with_reducible rfl
                            rotate_left
                            · simp only [Act.put, List.setIfInBounds_toArray, List.set_cons_zero, List.set_cons_succ, i64_w, i32_w]
                              rfl
                            refine pure_ (i := 2) (N := some 43) (v := ?_) (a' := ?_) #[false, true, true, false, false, false, false, false, false, false, false, false, false, false] rfl rfl (any_of HT_.out (by kernel_rfl)) (fun _ _ _ h => h) (Or.inl ⟨by rfl, ?_⟩) ?_ ?_
                            rotate_left
                            · intro w'
                              go_simp
                              with_reducible rfl
                            rotate_left
                            · simp only [Act.put, List.setIfInBounds_toArray, List.set_cons_zero, List.set_cons_succ, i64_w, i32_w]
                              rfl
                            refine pure_ (i := 3) (N := some 44) (v := ?_) (a' := ?_) #[false, true, true, true, false, false, false, false, false, false, false, false, false, false] rfl rfl (any_of HT_.out (by kernel_rfl)) (fun _ _ _ h => h) (Or.inl ⟨by rfl, ?_⟩) ?_ ?_
                            rotate_left
                            · intro w'
                              go_simp
                              with_reducible rfl
                            rotate_left
                            · simp only [Act.put, List.setIfInBounds_toArray, List.set_cons_zero, List.set_cons_succ, i64_w, i32_w]
                              rfl
                            refine pure_ (i := 4) (N := some 45) (v := ?_) (a' := ?_) #[false, true, true, true, true, false, false, false, false, false, false, false, false, false] rfl rfl (any_of HT_.out (by kernel_rfl)) (fun _ _ _ h => h) (Or.inl ⟨by rfl, ?_⟩) ?_ ?_
                            rotate_left
                            · intro w'
                              go_simp
                              with_reducible rfl
                            rotate_left
                            · simp only [Act.put, List.setIfInBounds_toArray, List.set_cons_zero, List.set_cons_succ, i64_w, i32_w]
                              rfl
                            refine take_ (i := 0) (N := some 41) (v := ?_) (a' := ?_) #[true, true, true, true, true, false, false, false, false, false, false, false, false, false] rfl rfl (take_ofW HT_.out HW_.out (by kernel_rfl)) (fun _ _ _ h => h) (Or.inl ⟨by rfl, ?_⟩) hHeld ?_ ?_
                            rotate_left
                            · rintro w' ⟨s0, s1, s2, s3, s4, s5⟩
                              go_simp
                              with_reducible rfl
                            rotate_left
                            · simp only [Act.put, List.setIfInBounds_toArray, List.set_cons_zero, List.set_cons_succ, i64_w, i32_w]
                              rfl
                            refine join_ (σ := Value × Value × Nat) 3 #[true, true, true, true, true, true, true, true, true, true, true, false, false, false] (fun s_ => [(46, .tuple #[.agg #[.int .u64 t747, .int .u64 t748, s_.1], s_.2.1, .bool true]), (7, .pointer (some ⟨s_.2.2, 0, none⟩)), (40, .tuple #[.agg #[.int .u64 t747, .int .u64 t748, s_.1], s_.2.1, .bool true]), (47, .agg #[.int .u64 t747, .int .u64 t748, s_.1]), (48, s_.2.1), (49, .bool true)]) (fun s_ w' => (w'.cell? ⟨gb740, 0, none⟩ = some (.int .i64 a0_0) ∧ w'.cell? ⟨gb740, 1, none⟩ = some (.int .i64 a0_1) ∧ w'.cell? ⟨gb740, 2, none⟩ = some (.int .i64 a0_2) ∧ w'.cell? ⟨gb740, 3, none⟩ = some (.int .u64 a0_3) ∧ w'.cell? ⟨gb740, 4, none⟩ = some (.int .u64 a0_4) ∧ w'.cell? ⟨gb740, 5, none⟩ = some (.int .u64 a0_5)) ∧ (Kd.S (Kd.slice 5 (Kd.int .u8)) 27 w' w.heap.size (fun _ => True) s_.1 t749) ∧ (Kd.S k51 51 w' w.heap.size (fun _ => True) s_.2.1 t752) ∧ (w'.heap[gb740]? = some (.cells #[.int .i64 a0_0, .int .i64 a0_1, .int .i64 a0_2, .int .u64 a0_3, .int .u64 a0_4, .int .u64 a0_5] 24 (0, 0))) ∧ (w'.heap[s_.2.2]? = some (.cells #[.int .u64 0, .int .u64 0, .slice none 0 0] 34 (0, 0))) ∧ (w.heap.size ≤ s_.2.2) ∧ (w.heap.size ≤ s_.2.2) ∧ (gb740 ≠ s_.2.2) ∧ (s_.2.2 ≠ gb740) ∧ (Below w.heap.size w w')) ?_ ?_
                            rotate_left
                            · intro hCont
                              refine two_ (i := 5) (j := 10) (Ni := some 46) (Nj := some 7) #[true, true, true, true, true, true, false, false, false, false, false, false, false, false] #[true, true, true, true, true, false, false, false, false, false, true, false, false, false] rfl rfl rfl rfl (two_of HT_.out (by kernel_rfl)) (by decide) (by decide) (fun K hK => ?_) (fun K hK => ?_)
                              · skip
                                refine goes_ Tryd.func23 (by kernel_rfl) rfl #[.agg #[.int .i64 a0_0, .int .i64 a0_1, .int .i64 a0_2, .int .u64 a0_3, .int .u64 a0_4, .int .u64 a0_5], .agg #[.int .u64 0, .int .u64 0, .slice none 0 0], .slice A1 y743.length c1] (by rfl) rfl rfl (by (try simp only [List.map_toArray, List.map_cons, List.map_nil]); first | done | rfl | (simp only [List.length_drop, List.length_take]; rfl)) ?_
                                refine (impl_Append.calls kj5 a0_0 a0_1 a0_2 a0_3 a0_4 a0_5 0 0 _ _ ([] : List (List Int)) _ _ y743 t747 t748 t749 t752 true _ ?side5 ?side1 ?side2 ?side3 ?side4 A14.out).mono ?_
                                (case side1 => exact Kd.C_nil _ _)
                                (case side2 => exact Nat.le_refl _)
                                (case side3 => repeat (first | exact (Kd.C_below HR746.out HB.out) | (with_reducible refine Kd.C_alloc ?_ _) | (with_reducible refine Kd.C_drewN ?_ _) | (with_reducible refine Kd.C_drew ?_)))
                                (case side4 => exact HC746.out)
                                (case side5 => exact Glob.below hG (by repeat (first | (with_reducible first | exact HB.out | apply below_alloc | apply pw_below_drewN | apply below_drew1 | refine below_set ?_ GE740.out) | exact HB.out)))
                                rintro e w33 ⟨v750, v753, rfl, ho0, ho1, hb⟩
                                refine ⟨_, rfl, ?_⟩
                                have n0_ := Aside0.mk (Kd.S_lower ho0 (below_size (by repeat (first | (with_reducible first | exact HB.out | apply below_alloc | apply pw_below_drewN | apply below_drew1 | refine below_set ?_ GE740.out) | exact HB.out))))
                                have n1_ := Aside0.mk (Kd.S_lower ho1 (below_size (by repeat (first | (with_reducible first | exact HB.out | apply below_alloc | apply pw_below_drewN | apply below_drew1 | refine below_set ?_ GE740.out) | exact HB.out))))
                                have n2_ := Aside0.mk (blk_below (g := gb740) (o := .cells #[.int .i64 a0_0, .int .i64 a0_1, .int .i64 a0_2, .int .u64 a0_3, .int .u64 a0_4, .int .u64 a0_5] 24 (0, 0)) (by (with_reducible repeat (first | refine blk_drewN ?_ _ | refine blk_drew ?_ | refine blk_alloc ?_ _)); exact BK740.out) hb)
                                have n3_ := Aside0.mk (below_step (by repeat (first | (with_reducible first | exact HB.out | apply below_alloc | apply pw_below_drewN | apply below_drew1 | refine below_set ?_ GE740.out) | exact HB.out)) hb)
                                clear BK740
                                clear HB
                                have HO751 := n0_
                                have HO754 := n1_
                                have BK740 := n2_
                                have HB := n3_
                                clear n0_ n1_ n2_ n3_
                                (try clear hb)
                                (try clear hb2)
                                (try clear hk)
                                (try clear hi)
                                (try clear ho0)
                                (try clear ho1)
                                refine hK.out _ _ ⟨(blk_cell BK740.out 0).trans rfl, (blk_cell BK740.out 1).trans rfl, (blk_cell BK740.out 2).trans rfl, (blk_cell BK740.out 3).trans rfl, (blk_cell BK740.out 4).trans rfl, (blk_cell BK740.out 5).trans rfl⟩ (fun hHeld => ?_)
                                clear hK K
                                refine norm_ (a' := ?_) ?_ ?_
                                rotate_left
                                · show Act.put _ (some 46) _ = _
                                  simp only [Act.put, List.setIfInBounds_toArray, List.set_cons_zero, List.set_cons_succ, i64_w, i32_w]
                                  rfl
                                refine pure_ (i := 6) (N := some 40) (v := ?_) (a' := ?_) #[true, true, true, true, true, true, true, false, false, false, false, false, false, false] rfl rfl (any_of HT_.out (by kernel_rfl)) (fun _ _ _ h => h) (Or.inl ⟨by rfl, ?_⟩) ?_ ?_
                                rotate_left
                                · intro w'
                                  go_simp
                                  with_reducible rfl
                                rotate_left
                                · simp only [Act.put, List.setIfInBounds_toArray, List.set_cons_zero, List.set_cons_succ, i64_w, i32_w]
                                  rfl
                                refine pure_ (i := 7) (N := some 47) (v := ?_) (a' := ?_) #[true, true, true, true, true, true, true, true, false, false, false, false, false, false] rfl rfl (any_of HT_.out (by kernel_rfl)) (fun _ _ _ h => h) (Or.inl ⟨by rfl, ?_⟩) ?_ ?_
                                rotate_left
                                · intro w'
                                  go_simp
                                  with_reducible rfl
                                rotate_left
                                · simp only [Act.put, List.setIfInBounds_toArray, List.set_cons_zero, List.set_cons_succ, i64_w, i32_w]
                                  rfl
                                refine pure_ (i := 8) (N := some 48) (v := ?_) (a' := ?_) #[true, true, true, true, true, true, true, true, true, false, false, false, false, false] rfl rfl (any_of HT_.out (by kernel_rfl)) (fun _ _ _ h => h) (Or.inl ⟨by rfl, ?_⟩) ?_ ?_
                                rotate_left
                                · intro w'
                                  go_simp
                                  with_reducible rfl
                                rotate_left
                                · simp only [Act.put, List.setIfInBounds_toArray, List.set_cons_zero, List.set_cons_succ, i64_w, i32_w]
                                  rfl
                                refine pure_ (i := 9) (N := some 49) (v := ?_) (a' := ?_) #[true, true, true, true, true, true, true, true, true, true, false, false, false, false] rfl rfl (any_of HT_.out (by kernel_rfl)) (fun _ _ _ h => h) (Or.inl ⟨by rfl, ?_⟩) ?_ ?_
                                rotate_left
                                · intro w'
                                  go_simp
                                  with_reducible rfl
                                rotate_left
                                · simp only [Act.put, List.setIfInBounds_toArray, List.set_cons_zero, List.set_cons_succ, i64_w, i32_w]
                                  rfl
                                refine one_ (i := 10) (N := some 7) #[true, true, true, true, true, true, true, true, true, true, true, false, false, false] rfl rfl (one_of HT_.out (by kernel_rfl)) (by decide) (fun K hK => ?_)
                                refine box_step ?hg (N := 7) ?hd (cs := #[.int .u64 0, .int .u64 0, .slice none 0 0]) (t := 34) ?hr ?_; (case hd => rfl); (case hg => rfl); (case hr => first | (go_simp; done) | (go_simp; rfl))
                                intro gb756 hg w34 hbox hb
                                have n0_ := Aside0.mk (Kd.S_below (by (with_reducible repeat (first | apply Kd.S_alloc | apply Kd.S_drewN | apply Kd.S_drew)); exact HO751.out) hb)
                                have n1_ := Aside0.mk (Kd.S_below (by (with_reducible repeat (first | apply Kd.S_alloc | apply Kd.S_drewN | apply Kd.S_drew)); exact HO754.out) hb)
                                have n2_ := Aside0.mk (blk_below (g := gb740) (o := .cells #[.int .i64 a0_0, .int .i64 a0_1, .int .i64 a0_2, .int .u64 a0_3, .int .u64 a0_4, .int .u64 a0_5] 24 (0, 0)) (by (with_reducible repeat (first | refine blk_drewN ?_ _ | refine blk_drew ?_ | refine blk_alloc ?_ _)); exact BK740.out) hb)
                                have n3_ := Aside0.mk (below_step (by repeat (first | (with_reducible first | exact HB.out | apply below_alloc | apply pw_below_drewN | apply below_drew1 | refine below_set ?_ GE740.out) | exact HB.out)) hb)
                                have n4_ := Aside0.mk (hbox)
                                have n5_ := Aside0.mk ((by rw [hg]; exact (below_size (by repeat (first | (with_reducible first | exact HB.out | apply below_alloc | apply pw_below_drewN | apply below_drew1 | refine below_set ?_ GE740.out) | exact HB.out))) : w.heap.size ≤ gb756))
                                have n6_ := Aside0.mk ((by rw [hg]; exact (below_size (by repeat (first | (with_reducible first | exact HB.out | apply below_alloc | apply pw_below_drewN | apply below_drew1 | refine below_set ?_ GE740.out) | exact HB.out))) : w.heap.size ≤ gb756))
                                have n7_ := Aside0.mk ((by rw [hg]; exact Nat.ne_of_lt (blk_lt (g := gb740) (o := .cells #[.int .i64 a0_0, .int .i64 a0_1, .int .i64 a0_2, .int .u64 a0_3, .int .u64 a0_4, .int .u64 a0_5] 24 (0, 0)) (by (with_reducible repeat (first | refine blk_drewN ?_ _ | refine blk_drew ?_ | refine blk_alloc ?_ _)); exact BK740.out)) : gb740 ≠ gb756))
                                have n8_ := Aside0.mk ((by rw [hg]; exact Nat.ne_of_gt (blk_lt (g := gb740) (o := .cells #[.int .i64 a0_0, .int .i64 a0_1, .int .i64 a0_2, .int .u64 a0_3, .int .u64 a0_4, .int .u64 a0_5] 24 (0, 0)) (by (with_reducible repeat (first | refine blk_drewN ?_ _ | refine blk_drew ?_ | refine blk_alloc ?_ _)); exact BK740.out)) : gb756 ≠ gb740))
                                clear HO751
                                clear HO754
                                clear BK740
                                clear HB
                                have HO751 := n0_
                                have HO754 := n1_
                                have BK740 := n2_
                                have HB := n3_
                                have BK756 := n4_
                                have GW756 := n5_
                                have GE756 := n6_
                                have NB740_756 := n7_
                                have NB756_740 := n8_
                                clear n0_ n1_ n2_ n3_ n4_ n5_ n6_ n7_ n8_
                                clear hb hbox hg
                                refine hK.out _ _ ⟨(blk_cell BK740.out 0).trans rfl, (blk_cell BK740.out 1).trans rfl, (blk_cell BK740.out 2).trans rfl, (blk_cell BK740.out 3).trans rfl, (blk_cell BK740.out 4).trans rfl, (blk_cell BK740.out 5).trans rfl⟩ (fun hHeld => ?_)
                                clear hK K
                                refine norm_ (a' := ?_) ?_ ?_
                                rotate_left
                                · show Act.put _ (some 7) _ = _
                                  simp only [Act.put, List.setIfInBounds_toArray, List.set_cons_zero, List.set_cons_succ, i64_w, i32_w]
                                  rfl
                                exact norm_ (by simp only [putAll, Act.put, List.setIfInBounds_toArray, List.set_cons_zero, List.set_cons_succ]) (hCont (v750, v753, gb756) _ ⟨hHeld, (by (with_reducible repeat (first | apply Kd.S_alloc | apply Kd.S_drewN | apply Kd.S_drew)); exact HO751.out), (by (with_reducible repeat (first | apply Kd.S_alloc | apply Kd.S_drewN | apply Kd.S_drew)); exact HO754.out), (by (with_reducible repeat (first | refine blk_drewN ?_ _ | refine blk_drew ?_ | refine blk_alloc ?_ _)); exact BK740.out), (by (with_reducible repeat (first | refine blk_drewN ?_ _ | refine blk_drew ?_ | refine blk_alloc ?_ _)); exact BK756.out), GW756.out, GE756.out, NB740_756.out, NB756_740.out, (by repeat (first | (with_reducible first | exact HB.out | apply below_alloc | apply pw_below_drewN | apply below_drew1 | refine below_set ?_ GE740.out | refine below_set ?_ GE756.out) | exact HB.out))⟩)
                              · skip
                                refine box_step ?hg (N := 7) ?hd (cs := #[.int .u64 0, .int .u64 0, .slice none 0 0]) (t := 34) ?hr ?_; (case hd => rfl); (case hg => rfl); (case hr => first | (go_simp; done) | (go_simp; rfl))
                                intro gb756 hg w33 hbox hb
                                have n0_ := Aside0.mk (blk_below (g := gb740) (o := .cells #[.int .i64 a0_0, .int .i64 a0_1, .int .i64 a0_2, .int .u64 a0_3, .int .u64 a0_4, .int .u64 a0_5] 24 (0, 0)) (by (with_reducible repeat (first | refine blk_drewN ?_ _ | refine blk_drew ?_ | refine blk_alloc ?_ _)); exact BK740.out) hb)
                                have n1_ := Aside0.mk (below_step (by repeat (first | (with_reducible first | exact HB.out | apply below_alloc | apply pw_below_drewN | apply below_drew1 | refine below_set ?_ GE740.out) | exact HB.out)) hb)
                                have n2_ := Aside0.mk (hbox)
                                have n3_ := Aside0.mk ((by rw [hg]; exact (below_size (by repeat (first | (with_reducible first | exact HB.out | apply below_alloc | apply pw_below_drewN | apply below_drew1 | refine below_set ?_ GE740.out) | exact HB.out))) : w.heap.size ≤ gb756))
                                have n4_ := Aside0.mk ((by rw [hg]; exact (below_size (by repeat (first | (with_reducible first | exact HB.out | apply below_alloc | apply pw_below_drewN | apply below_drew1 | refine below_set ?_ GE740.out) | exact HB.out))) : w.heap.size ≤ gb756))
                                have n5_ := Aside0.mk ((by rw [hg]; exact Nat.ne_of_lt (blk_lt (g := gb740) (o := .cells #[.int .i64 a0_0, .int .i64 a0_1, .int .i64 a0_2, .int .u64 a0_3, .int .u64 a0_4, .int .u64 a0_5] 24 (0, 0)) (by (with_reducible repeat (first | refine blk_drewN ?_ _ | refine blk_drew ?_ | refine blk_alloc ?_ _)); exact BK740.out)) : gb740 ≠ gb756))
                                have n6_ := Aside0.mk ((by rw [hg]; exact Nat.ne_of_gt (blk_lt (g := gb740) (o := .cells #[.int .i64 a0_0, .int .i64 a0_1, .int .i64 a0_2, .int .u64 a0_3, .int .u64 a0_4, .int .u64 a0_5] 24 (0, 0)) (by (with_reducible repeat (first | refine blk_drewN ?_ _ | refine blk_drew ?_ | refine blk_alloc ?_ _)); exact BK740.out)) : gb756 ≠ gb740))
                                clear BK740
                                clear HB
                                have BK740 := n0_
                                have HB := n1_
                                have BK756 := n2_
                                have GW756 := n3_
                                have GE756 := n4_
                                have NB740_756 := n5_
                                have NB756_740 := n6_
                                clear n0_ n1_ n2_ n3_ n4_ n5_ n6_
                                clear hb hbox hg
                                refine hK.out _ _ ⟨(blk_cell BK740.out 0).trans rfl, (blk_cell BK740.out 1).trans rfl, (blk_cell BK740.out 2).trans rfl, (blk_cell BK740.out 3).trans rfl, (blk_cell BK740.out 4).trans rfl, (blk_cell BK740.out 5).trans rfl⟩ (fun hHeld => ?_)
                                clear hK K
                                refine norm_ (a' := ?_) ?_ ?_
                                rotate_left
                                · show Act.put _ (some 7) _ = _
                                  simp only [Act.put, List.setIfInBounds_toArray, List.set_cons_zero, List.set_cons_succ, i64_w, i32_w]
                                  rfl
                                refine one_ (i := 5) (N := some 46) #[true, true, true, true, true, true, false, false, false, false, true, false, false, false] rfl rfl (one_of HT_.out (by kernel_rfl)) (by decide) (fun K hK => ?_)
                                refine goes_ Tryd.func23 (by kernel_rfl) rfl #[.agg #[.int .i64 a0_0, .int .i64 a0_1, .int .i64 a0_2, .int .u64 a0_3, .int .u64 a0_4, .int .u64 a0_5], .agg #[.int .u64 0, .int .u64 0, .slice none 0 0], .slice A1 y743.length c1] (by rfl) rfl rfl (by (try simp only [List.map_toArray, List.map_cons, List.map_nil]); first | done | rfl | (simp only [List.length_drop, List.length_take]; rfl)) ?_
                                refine (impl_Append.calls kj5 a0_0 a0_1 a0_2 a0_3 a0_4 a0_5 0 0 _ _ ([] : List (List Int)) _ _ y743 t747 t748 t749 t752 true _ ?side5 ?side1 ?side2 ?side3 ?side4 A14.out).mono ?_
                                (case side1 => exact Kd.C_nil _ _)
                                (case side2 => exact Nat.le_refl _)
                                (case side3 => repeat (first | exact (Kd.C_below HR746.out HB.out) | (with_reducible refine Kd.C_alloc ?_ _) | (with_reducible refine Kd.C_drewN ?_ _) | (with_reducible refine Kd.C_drew ?_)))
                                (case side4 => exact HC746.out)
                                (case side5 => exact Glob.below hG (by repeat (first | (with_reducible first | exact HB.out | apply below_alloc | apply pw_below_drewN | apply below_drew1 | refine below_set ?_ GE740.out | refine below_set ?_ GE756.out) | exact HB.out)))
                                rintro e w34 ⟨v750, v753, rfl, ho0, ho1, hb⟩
                                refine ⟨_, rfl, ?_⟩
                                have n0_ := Aside0.mk (Kd.S_lower ho0 (below_size (by repeat (first | (with_reducible first | exact HB.out | apply below_alloc | apply pw_below_drewN | apply below_drew1 | refine below_set ?_ GE740.out | refine below_set ?_ GE756.out) | exact HB.out))))
                                have n1_ := Aside0.mk (Kd.S_lower ho1 (below_size (by repeat (first | (with_reducible first | exact HB.out | apply below_alloc | apply pw_below_drewN | apply below_drew1 | refine below_set ?_ GE740.out | refine below_set ?_ GE756.out) | exact HB.out))))
                                have n2_ := Aside0.mk (blk_below (g := gb740) (o := .cells #[.int .i64 a0_0, .int .i64 a0_1, .int .i64 a0_2, .int .u64 a0_3, .int .u64 a0_4, .int .u64 a0_5] 24 (0, 0)) (by (with_reducible repeat (first | refine blk_drewN ?_ _ | refine blk_drew ?_ | refine blk_alloc ?_ _)); exact BK740.out) hb)
                                have n3_ := Aside0.mk (blk_below (g := gb756) (o := .cells #[.int .u64 0, .int .u64 0, .slice none 0 0] 34 (0, 0)) (by (with_reducible repeat (first | refine blk_drewN ?_ _ | refine blk_drew ?_ | refine blk_alloc ?_ _)); exact BK756.out) hb)
                                have n4_ := Aside0.mk (below_step (by repeat (first | (with_reducible first | exact HB.out | apply below_alloc | apply pw_below_drewN | apply below_drew1 | refine below_set ?_ GE740.out | refine below_set ?_ GE756.out) | exact HB.out)) hb)
                                clear BK740
                                clear BK756
                                clear HB
                                have HO751 := n0_
                                have HO754 := n1_
                                have BK740 := n2_
                                have BK756 := n3_
                                have HB := n4_
                                clear n0_ n1_ n2_ n3_ n4_
                                (try clear hb)
                                (try clear hb2)
                                (try clear hk)
                                (try clear hi)
                                (try clear ho0)
                                (try clear ho1)
                                refine hK.out _ _ ⟨(blk_cell BK740.out 0).trans rfl, (blk_cell BK740.out 1).trans rfl, (blk_cell BK740.out 2).trans rfl, (blk_cell BK740.out 3).trans rfl, (blk_cell BK740.out 4).trans rfl, (blk_cell BK740.out 5).trans rfl⟩ (fun hHeld => ?_)
                                clear hK K
                                refine norm_ (a' := ?_) ?_ ?_
                                rotate_left
                                · show Act.put _ (some 46) _ = _
                                  simp only [Act.put, List.setIfInBounds_toArray, List.set_cons_zero, List.set_cons_succ, i64_w, i32_w]
                                  rfl
                                refine pure_ (i := 6) (N := some 40) (v := ?_) (a' := ?_) #[true, true, true, true, true, true, true, false, false, false, true, false, false, false] rfl rfl (any_of HT_.out (by kernel_rfl)) (fun _ _ _ h => h) (Or.inl ⟨by rfl, ?_⟩) ?_ ?_
                                rotate_left
                                · intro w'
                                  go_simp
                                  with_reducible rfl
                                rotate_left
                                · simp only [Act.put, List.setIfInBounds_toArray, List.set_cons_zero, List.set_cons_succ, i64_w, i32_w]
                                  rfl
                                refine pure_ (i := 7) (N := some 47) (v := ?_) (a' := ?_) #[true, true, true, true, true, true, true, true, false, false, true, false, false, false] rfl rfl (any_of HT_.out (by kernel_rfl)) (fun _ _ _ h => h) (Or.inl ⟨by rfl, ?_⟩) ?_ ?_
                                rotate_left
                                · intro w'
                                  go_simp
                                  with_reducible rfl
                                rotate_left
                                · simp only [Act.put, List.setIfInBounds_toArray, List.set_cons_zero, List.set_cons_succ, i64_w, i32_w]
                                  rfl
                                refine pure_ (i := 8) (N := some 48) (v := ?_) (a' := ?_) #[true, true, true, true, true, true, true, true, true, false, true, false, false, false] rfl rfl (any_of HT_.out (by kernel_rfl)) (fun _ _ _ h => h) (Or.inl ⟨by rfl, ?_⟩) ?_ ?_
                                rotate_left
                                · intro w'
                                  go_simp
                                  with_reducible rfl
                                rotate_left
                                · simp only [Act.put, List.setIfInBounds_toArray, List.set_cons_zero, List.set_cons_succ, i64_w, i32_w]
                                  rfl
                                refine pure_ (i := 9) (N := some 49) (v := ?_) (a' := ?_) #[true, true, true, true, true, true, true, true, true, true, true, false, false, false] rfl rfl (any_of HT_.out (by kernel_rfl)) (fun _ _ _ h => h) (Or.inl ⟨by rfl, ?_⟩) ?_ ?_
                                rotate_left
                                · intro w'
                                  go_simp
                                  with_reducible rfl
                                rotate_left
                                · simp only [Act.put, List.setIfInBounds_toArray, List.set_cons_zero, List.set_cons_succ, i64_w, i32_w]
                                  rfl
                                exact norm_ (by simp only [putAll, Act.put, List.setIfInBounds_toArray, List.set_cons_zero, List.set_cons_succ]) (hCont (v750, v753, gb756) _ ⟨hHeld, (by (with_reducible repeat (first | apply Kd.S_alloc | apply Kd.S_drewN | apply Kd.S_drew)); exact HO751.out), (by (with_reducible repeat (first | apply Kd.S_alloc | apply Kd.S_drewN | apply Kd.S_drew)); exact HO754.out), (by (with_reducible repeat (first | refine blk_drewN ?_ _ | refine blk_drew ?_ | refine blk_alloc ?_ _)); exact BK740.out), (by (with_reducible repeat (first | refine blk_drewN ?_ _ | refine blk_drew ?_ | refine blk_alloc ?_ _)); exact BK756.out), GW756.out, GE756.out, NB740_756.out, NB756_740.out, (by repeat (first | (with_reducible first | exact HB.out | apply below_alloc | apply pw_below_drewN | apply below_drew1 | refine below_set ?_ GE740.out | refine below_set ?_ GE756.out) | exact HB.out))⟩)
                            rintro ⟨v750, v753, gb756⟩ w35 ⟨hS_, h0_, h1_, h2_, h3_, h4_, h5_, h6_, h7_, h8_⟩
                            have n0_ : Aside0 (Kd.S (Kd.slice 5 (Kd.int .u8)) 27 w35 w.heap.size (fun _ => True) v750 t749) := ⟨h0_⟩
                            have n1_ : Aside0 (Kd.S k51 51 w35 w.heap.size (fun _ => True) v753 t752) := ⟨h1_⟩
                            have n2_ : Aside0 (w35.heap[gb740]? = some (.cells #[.int .i64 a0_0, .int .i64 a0_1, .int .i64 a0_2, .int .u64 a0_3, .int .u64 a0_4, .int .u64 a0_5] 24 (0, 0))) := ⟨h2_⟩
                            have n3_ : Aside0 (w35.heap[gb756]? = some (.cells #[.int .u64 0, .int .u64 0, .slice none 0 0] 34 (0, 0))) := ⟨h3_⟩
                            have n4_ : Aside0 (w.heap.size ≤ gb756) := ⟨h4_⟩
                            have n5_ : Aside0 (w.heap.size ≤ gb756) := ⟨h5_⟩
                            have n6_ : Aside0 (gb740 ≠ gb756) := ⟨h6_⟩
                            have n7_ : Aside0 (gb756 ≠ gb740) := ⟨h7_⟩
                            have n8_ : Aside0 (Below w.heap.size w w35) := ⟨h8_⟩
                            clear BK740
                            clear HB
                            clear h0_ h1_ h2_ h3_ h4_ h5_ h6_ h7_ h8_
                            have HO751 := n0_
                            have HO754 := n1_
                            have BK740 := n2_
                            have BK756 := n3_
                            have GW756 := n4_
                            have GE756 := n5_
                            have NB740_756 := n6_
                            have NB756_740 := n7_
                            have HB := n8_
                            clear n0_ n1_ n2_ n3_ n4_ n5_ n6_ n7_ n8_
                            have hHeld : w35.cell? ⟨gb740, 0, none⟩ = some (.int .i64 a0_0) ∧ w35.cell? ⟨gb740, 1, none⟩ = some (.int .i64 a0_1) ∧ w35.cell? ⟨gb740, 2, none⟩ = some (.int .i64 a0_2) ∧ w35.cell? ⟨gb740, 3, none⟩ = some (.int .u64 a0_3) ∧ w35.cell? ⟨gb740, 4, none⟩ = some (.int .u64 a0_4) ∧ w35.cell? ⟨gb740, 5, none⟩ = some (.int .u64 a0_5) := hS_
                            obtain ⟨Ao38, co38, eo38⟩ := Kd.S_slice HO751.out
                            (first | subst eo38 | (injection eo38 with f1_ f2_ f3_; have f4_ := f1_.symm; have f5_ := f3_.symm; clear f1_ f2_ f3_; subst f4_; subst f5_))
                            refine norm_ (a' := ?_) ?_ ?_
                            rotate_left
                            · simp only [putAll, Act.put, List.setIfInBounds_toArray, List.set_cons_zero, List.set_cons_succ]
                              rfl
                            refine one_ (i := 11) (N := none) #[true, true, true, true, true, true, true, true, true, true, true, true, false, false] rfl rfl (one_of HT_.out (by kernel_rfl)) (by decide) (fun K hK => ?_)
                            have hs36 : w35.cell? ⟨gb756, 0, none⟩ = some (.int .u64 0) := (blk_cell BK756.out 0).trans rfl
                            have hfs36 := blk_frozen BK756.out 0
                            have hns36_0 := NB740_756.out
                            have hms36_0 := NB756_740.out
                            have hs37 : w35.cell? ⟨gb756, 1, none⟩ = some (.int .u64 0) := (blk_cell BK756.out 1).trans rfl
                            have hfs37 := blk_frozen BK756.out 1
                            have hns37_0 := NB740_756.out
                            have hms37_0 := NB756_740.out
                            have hs39 : w35.cell? ⟨gb756, 2, none⟩ = some (.slice none 0 0) := (blk_cell BK756.out 2).trans rfl
                            have hfs39 := blk_frozen BK756.out 2
                            have hns39_0 := NB740_756.out
                            have hms39_0 := NB756_740.out
                            refine skip_ (w1 := ?_) (by rfl) rfl ?_ ?_
                            rotate_left
                            · go_simp
                              rfl
                            refine hK.out _ _ ⟨((cell_far (p := ⟨gb756, _, none⟩) NB740_756.out _).trans (((cell_far (p := ⟨gb756, _, none⟩) NB740_756.out _).trans (((cell_far (p := ⟨gb756, _, none⟩) NB740_756.out _).trans (hHeld.1)))))), ((cell_far (p := ⟨gb756, _, none⟩) NB740_756.out _).trans (((cell_far (p := ⟨gb756, _, none⟩) NB740_756.out _).trans (((cell_far (p := ⟨gb756, _, none⟩) NB740_756.out _).trans (hHeld.2.1)))))), ((cell_far (p := ⟨gb756, _, none⟩) NB740_756.out _).trans (((cell_far (p := ⟨gb756, _, none⟩) NB740_756.out _).trans (((cell_far (p := ⟨gb756, _, none⟩) NB740_756.out _).trans (hHeld.2.2.1)))))), ((cell_far (p := ⟨gb756, _, none⟩) NB740_756.out _).trans (((cell_far (p := ⟨gb756, _, none⟩) NB740_756.out _).trans (((cell_far (p := ⟨gb756, _, none⟩) NB740_756.out _).trans (hHeld.2.2.2.1)))))), ((cell_far (p := ⟨gb756, _, none⟩) NB740_756.out _).trans (((cell_far (p := ⟨gb756, _, none⟩) NB740_756.out _).trans (((cell_far (p := ⟨gb756, _, none⟩) NB740_756.out _).trans (hHeld.2.2.2.2.1)))))), ((cell_far (p := ⟨gb756, _, none⟩) NB740_756.out _).trans (((cell_far (p := ⟨gb756, _, none⟩) NB740_756.out _).trans (((cell_far (p := ⟨gb756, _, none⟩) NB740_756.out _).trans (hHeld.2.2.2.2.2))))))⟩ (fun hHeld => ?_)
                            clear hK K
                            refine pure_ (i := 12) (N := some 8) (v := ?_) (a' := ?_) #[true, true, true, true, true, true, true, true, true, true, true, true, true, false] rfl rfl (any_of HT_.out (by kernel_rfl)) (fun _ _ _ h => h) (Or.inl ⟨by rfl, ?_⟩) ?_ ?_
                            rotate_left
                            · intro w'
                              go_simp
                              with_reducible rfl
                            rotate_left
                            · simp only [Act.put, List.setIfInBounds_toArray, List.set_cons_zero, List.set_cons_succ, i64_w, i32_w]
                              rfl
                            refine pure_ (i := 13) (N := some 9) (v := ?_) (a' := ?_) #[true, true, true, true, true, true, true, true, true, true, true, true, true, true] rfl rfl (any_of HT_.out (by kernel_rfl)) (fun _ _ _ h => h) (Or.inl ⟨by rfl, ?_⟩) ?_ ?_
                            rotate_left
                            · intro w'
                              go_simp
                              with_reducible rfl
                            rotate_left
                            · simp only [Act.put, List.setIfInBounds_toArray, List.set_cons_zero, List.set_cons_succ, i64_w, i32_w]
                              rfl
                            refine done_ (done_of HT_.out (by kernel_rfl)) ?_
                            try go_wp2
                            have n0_ : Aside0 (Kd.S (Kd.slice 5 (Kd.int .u8)) 27 (((w35.setCell ⟨gb756, 0, none⟩ (.int .u64 t747)).setCell ⟨gb756, 1, none⟩ (.int .u64 t748)).setCell ⟨gb756, 2, none⟩ (.slice Ao38 t749.length co38)) w.heap.size (fun _ => True) (.slice Ao38 t749.length co38) t749) := ⟨by (with_reducible repeat (first | apply Kd.S_alloc | apply Kd.S_drewN | apply Kd.S_drew)); exact Kd.S_mono (Kd.S_far (p := ⟨gb756, 2, none⟩) (Kd.S_far (p := ⟨gb756, 1, none⟩) (Kd.S_far (p := ⟨gb756, 0, none⟩) (Kd.S_types HO751.out BK756.out (by decide)) (fun _ hk => hk.2) (.int .u64 t747)) (fun _ hk => hk.2) (.int .u64 t748)) (fun _ hk => hk.2) (.slice Ao38 t749.length co38)) (fun _ hk => trivial)⟩
                            have n1_ : Aside0 (Kd.S k51 51 (((w35.setCell ⟨gb756, 0, none⟩ (.int .u64 t747)).setCell ⟨gb756, 1, none⟩ (.int .u64 t748)).setCell ⟨gb756, 2, none⟩ (.slice Ao38 t749.length co38)) w.heap.size (fun _ => True) v753 t752) := ⟨by (with_reducible repeat (first | apply Kd.S_alloc | apply Kd.S_drewN | apply Kd.S_drew)); exact Kd.S_mono (Kd.S_far (p := ⟨gb756, 2, none⟩) (Kd.S_far (p := ⟨gb756, 1, none⟩) (Kd.S_far (p := ⟨gb756, 0, none⟩) (Kd.S_types HO754.out BK756.out (by decide)) (fun _ hk => hk.2) (.int .u64 t747)) (fun _ hk => hk.2) (.int .u64 t748)) (fun _ hk => hk.2) (.slice Ao38 t749.length co38)) (fun _ hk => trivial)⟩
                            have n2_ : Aside0 ((((w35.setCell ⟨gb756, 0, none⟩ (.int .u64 t747)).setCell ⟨gb756, 1, none⟩ (.int .u64 t748)).setCell ⟨gb756, 2, none⟩ (.slice Ao38 t749.length co38)).heap[gb740]? = some (.cells #[.int .i64 a0_0, .int .i64 a0_1, .int .i64 a0_2, .int .u64 a0_3, .int .u64 a0_4, .int .u64 a0_5] 24 (0, 0))) := ⟨by (with_reducible repeat (first | refine blk_drewN ?_ _ | refine blk_drew ?_ | refine blk_alloc ?_ _)); refine blk_far ?_ NB740_756.out _; (with_reducible repeat (first | refine blk_drewN ?_ _ | refine blk_drew ?_ | refine blk_alloc ?_ _)); refine blk_far ?_ NB740_756.out _; (with_reducible repeat (first | refine blk_drewN ?_ _ | refine blk_drew ?_ | refine blk_alloc ?_ _)); refine blk_far ?_ NB740_756.out _; (with_reducible repeat (first | refine blk_drewN ?_ _ | refine blk_drew ?_ | refine blk_alloc ?_ _)); exact BK740.out⟩
                            have n3_ : Aside0 ((((w35.setCell ⟨gb756, 0, none⟩ (.int .u64 t747)).setCell ⟨gb756, 1, none⟩ (.int .u64 t748)).setCell ⟨gb756, 2, none⟩ (.slice Ao38 t749.length co38)).heap[gb756]? = some (.cells #[.int .u64 t747, .int .u64 t748, .slice Ao38 t749.length co38] 34 (0, 0))) := ⟨by (with_reducible repeat (first | refine blk_drewN ?_ _ | refine blk_drew ?_ | refine blk_alloc ?_ _)); refine blk_put (cs := #[.int .u64 t747, .int .u64 t748, .slice none 0 0]) ?_ 2 _ rfl; (with_reducible repeat (first | refine blk_drewN ?_ _ | refine blk_drew ?_ | refine blk_alloc ?_ _)); refine blk_put (cs := #[.int .u64 t747, .int .u64 0, .slice none 0 0]) ?_ 1 _ rfl; (with_reducible repeat (first | refine blk_drewN ?_ _ | refine blk_drew ?_ | refine blk_alloc ?_ _)); refine blk_put (cs := #[.int .u64 0, .int .u64 0, .slice none 0 0]) ?_ 0 _ rfl; (with_reducible repeat (first | refine blk_drewN ?_ _ | refine blk_drew ?_ | refine blk_alloc ?_ _)); exact BK756.out⟩
                            have n4_ : Aside0 (Below w.heap.size w (((w35.setCell ⟨gb756, 0, none⟩ (.int .u64 t747)).setCell ⟨gb756, 1, none⟩ (.int .u64 t748)).setCell ⟨gb756, 2, none⟩ (.slice Ao38 t749.length co38))) := ⟨by repeat (first | (with_reducible first | exact HB.out | apply below_alloc | apply pw_below_drewN | apply below_drew1 | refine below_set ?_ GE740.out | refine below_set ?_ GE756.out) | exact HB.out)⟩
                            (try clear HO751)
                            (try clear HO754)
                            (try clear BK740)
                            (try clear BK756)
                            (try clear HB)
                            generalize (((w35.setCell ⟨gb756, 0, none⟩ (.int .u64 t747)).setCell ⟨gb756, 1, none⟩ (.int .u64 t748)).setCell ⟨gb756, 2, none⟩ (.slice Ao38 t749.length co38)) = w40 at n0_ n1_ n2_ n3_ n4_ ⊢
                            have HO751 := n0_
                            have HO754 := n1_
                            have BK740 := n2_
                            have BK756 := n3_
                            have HB := n4_
                            clear n0_ n1_ n2_ n3_ n4_
                            (try (rw [drewN_self w40]; generalize hq_ : World.drewN w40 _ = w40; have n0_ : Aside0 (Kd.S (Kd.slice 5 (Kd.int .u8)) 27 w40 w.heap.size (fun _ => True) (.slice Ao38 t749.length co38) t749) := ⟨by rw [← hq_]; exact (by (with_reducible repeat (first | apply Kd.S_alloc | apply Kd.S_drewN | apply Kd.S_drew)); exact HO751.out)⟩; have n1_ : Aside0 (Kd.S k51 51 w40 w.heap.size (fun _ => True) v753 t752) := ⟨by rw [← hq_]; exact (by (with_reducible repeat (first | apply Kd.S_alloc | apply Kd.S_drewN | apply Kd.S_drew)); exact HO754.out)⟩; have n2_ : Aside0 (w40.heap[gb740]? = some (.cells #[.int .i64 a0_0, .int .i64 a0_1, .int .i64 a0_2, .int .u64 a0_3, .int .u64 a0_4, .int .u64 a0_5] 24 (0, 0))) := ⟨by rw [← hq_]; exact (by (with_reducible repeat (first | refine blk_drewN ?_ _ | refine blk_drew ?_ | refine blk_alloc ?_ _)); exact BK740.out)⟩; have n3_ : Aside0 (w40.heap[gb756]? = some (.cells #[.int .u64 t747, .int .u64 t748, .slice Ao38 t749.length co38] 34 (0, 0))) := ⟨by rw [← hq_]; exact (by (with_reducible repeat (first | refine blk_drewN ?_ _ | refine blk_drew ?_ | refine blk_alloc ?_ _)); exact BK756.out)⟩; have n4_ : Aside0 (Below w.heap.size w w40) := ⟨by rw [← hq_]; exact (by repeat (first | (with_reducible first | exact HB.out | apply below_alloc | apply pw_below_drewN | apply below_drew1 | refine below_set ?_ GE740.out | refine below_set ?_ GE756.out) | exact HB.out))⟩; clear HO751 HO754 BK740 BK756 HB hq_; have HO751 := n0_; have HO754 := n1_; have BK740 := n2_; have BK756 := n3_; have HB := n4_; clear n0_ n1_ n2_ n3_ n4_))
                            have n0_ := Aside0.mk (Kd.S_drew HO751.out)
                            have n1_ := Aside0.mk (Kd.S_drew HO754.out)
                            have n2_ := Aside0.mk (blk_drew BK740.out)
                            have n3_ := Aside0.mk (blk_drew BK756.out)
                            have n4_ := Aside0.mk (below_drew1 HB.out)
                            clear HO751
                            clear HO754
                            clear BK740
                            clear BK756
                            clear HB
                            have HO751 := n0_
                            have HO754 := n1_
                            have BK740 := n2_
                            have BK756 := n3_
                            have HB := n4_
                            clear n0_ n1_ n2_ n3_ n4_
                            have q42 : (a2 : Int) ≤ ((l1.length : Int) : Int) := of_decide_eq_true (by first | (with_reducible assumption) | assumption)
                            obtain ⟨i042, hi042, _, hsz42, _⟩ := info_parts info27
                            have hroom42 : l1.length ≤ c1 := HC1.out
                            have hC42 : Kd.C (Kd.slice 5 (Kd.int .u8)) _ A1 l1.length l1 := HR1.out
                            have q042 : (0 : Int) ≤ (a2 : Int) := of_decide_eq_true (by first | (with_reducible assumption) | assumption)
                            have hcut42 := cut_from (P := Tryd.prog) 25 27 .i64 Tryd.underlying25 hi042 1 hsz42 A1 l1.length c1 a2 q042 q42
                            have hcut42u := cut_from (P := Tryd.prog) 25 27 .u64 Tryd.underlying25 hi042 1 hsz42 A1 l1.length c1 a2 q042 q42
                            have hr42 := Kd.C_drop (m := (a2 : Int).toNat) (c := c1) hC42 (by omega) hroom42
                            obtain ⟨A42, hA42⟩ : ∃ A1_, A1_ = (if c1 = (a2 : Int).toNat then A1 else (A1 : Option Addr).map (·.add ((a2 : Int).toNat * 1))) := ⟨_, rfl⟩
                            obtain ⟨c42, hc42⟩ : ∃ c1_, c1_ = c1 - (a2 : Int).toNat := ⟨_, rfl⟩
                            have hy42 : y757.length = l1.length - (a2 : Int).toNat := (by rw [Ny757.out, List.length_drop] <;> omega)
                            rw [show (l1).drop (a2 : Int).toNat = y757 from Ny757.out.symm] at hr42
                            replace hr42 : Kd.C (Kd.slice 5 (Kd.int .u8)) _ A42 y757.length y757 := (by rw [hA42]; exact hr42)
                            rw [← hy42, ← hA42, ← hc42] at hcut42 hcut42u
                            have HR760 := Aside0.mk hr42
                            have HC760 := Aside0.mk (show y757.length ≤ c42 from by rw [hy42, hc42]; exact Nat.sub_le_sub_right hroom42 _)
                            clear hr42 hC42 hroom42 hi042 hsz42 hc42
                            have KY42 := Aside0.mk hy42
                            have KA42 := Aside0.mk hA42
                            clear hy42 hA42
                            replace q42 := eq_true q42
                            refine start_ (n := 14) (S := fun w' => w'.cell? ⟨gb740, 0, none⟩ = some (.int .i64 a0_0) ∧ w'.cell? ⟨gb740, 1, none⟩ = some (.int .i64 a0_1) ∧ w'.cell? ⟨gb740, 2, none⟩ = some (.int .i64 a0_2) ∧ w'.cell? ⟨gb740, 3, none⟩ = some (.int .u64 a0_3) ∧ w'.cell? ⟨gb740, 4, none⟩ = some (.int .u64 a0_4) ∧ w'.cell? ⟨gb740, 5, none⟩ = some (.int .u64 a0_5) ∧ w'.cell? ⟨gb756, 0, none⟩ = some (.int .u64 t747) ∧ w'.cell? ⟨gb756, 1, none⟩ = some (.int .u64 t748) ∧ w'.cell? ⟨gb756, 2, none⟩ = some (.slice Ao38 t749.length co38)) (ds := []) #[false, false, false, false, false, false, false, false, false, false, false, false, false, false] (by kernel_rfl) rfl rfl ⟨(blk_cell BK740.out 0).trans rfl, (blk_cell BK740.out 1).trans rfl, (blk_cell BK740.out 2).trans rfl, (blk_cell BK740.out 3).trans rfl, (blk_cell BK740.out 4).trans rfl, (blk_cell BK740.out 5).trans rfl, (blk_cell BK756.out 0).trans rfl, (blk_cell BK756.out 1).trans rfl, (blk_cell BK756.out 2).trans rfl⟩ (fun hHeld => ?_); refine with_tabW laws_FnTreeIsRange.tab6 laws_FnTreeIsRange.bits6 (fun HT_ HW_ => ?_)
                            generalize w40.drew = w41 at HO751 HO754 BK740 BK756 HB HR760 hHeld ⊢
                            refine pure_ (i := 2) (N := some 53) (v := ?_) (a' := ?_) #[false, false, true, false, false, false, false, false, false, false, false, false, false, false] rfl rfl (any_of HT_.out (by kernel_rfl)) (fun _ _ _ h => h) (Or.inl ⟨by rfl, ?_⟩) ?_ ?_
                            rotate_left
                            · intro w'
                              go_simp
                              with_reducible rfl
                            rotate_left
                            · simp only [Act.put, List.setIfInBounds_toArray, List.set_cons_zero, List.set_cons_succ, i64_w, i32_w]
                              rfl
                            refine pure_ (i := 3) (N := some 54) (v := ?_) (a' := ?_) #[false, false, true, true, false, false, false, false, false, false, false, false, false, false] rfl rfl (any_of HT_.out (by kernel_rfl)) (fun _ _ _ h => h) (Or.inl ⟨by rfl, ?_⟩) ?_ ?_
                            rotate_left
                            · intro w'
                              go_simp
                              with_reducible rfl
                            rotate_left
                            · simp only [Act.put, List.setIfInBounds_toArray, List.set_cons_zero, List.set_cons_succ, i64_w, i32_w]
                              rfl
                            refine pure_ (i := 4) (N := some 55) (v := ?_) (a' := ?_) #[false, false, true, true, true, false, false, false, false, false, false, false, false, false] rfl rfl (any_of HT_.out (by kernel_rfl)) (fun _ _ _ h => h) (Or.inl ⟨by rfl, ?_⟩) ?_ ?_
                            rotate_left
                            · intro w'
                              go_simp
                              with_reducible rfl
                            rotate_left
                            · simp only [Act.put, List.setIfInBounds_toArray, List.set_cons_zero, List.set_cons_succ, i64_w, i32_w]
                              rfl
                            refine take_ (i := 0) (N := some 51) (v := ?_) (a' := ?_) #[true, false, true, true, true, false, false, false, false, false, false, false, false, false] rfl rfl (take_ofW HT_.out HW_.out (by kernel_rfl)) (fun _ _ _ h => h) (Or.inl ⟨by rfl, ?_⟩) hHeld ?_ ?_
                            rotate_left
                            · rintro w' ⟨s0, s1, s2, s3, s4, s5, s6, s7, s8⟩
                              go_simp
                              with_reducible rfl
                            rotate_left
                            · simp only [Act.put, List.setIfInBounds_toArray, List.set_cons_zero, List.set_cons_succ, i64_w, i32_w]
                              rfl
                            refine take_ (i := 1) (N := some 52) (v := ?_) (a' := ?_) #[true, true, true, true, true, false, false, false, false, false, false, false, false, false] rfl rfl (take_ofW HT_.out HW_.out (by kernel_rfl)) (fun _ _ _ h => h) (Or.inl ⟨by rfl, ?_⟩) hHeld ?_ ?_
                            rotate_left
                            · rintro w' ⟨s0, s1, s2, s3, s4, s5, s6, s7, s8⟩
                              go_simp
                              with_reducible rfl
                            rotate_left
                            · simp only [Act.put, List.setIfInBounds_toArray, List.set_cons_zero, List.set_cons_succ, i64_w, i32_w]
                              rfl
                            refine join_ (σ := Value × Value × Nat) 3 #[true, true, true, true, true, true, true, true, true, true, true, false, false, false] (fun s_ => [(56, .tuple #[.agg #[.int .u64 t761, .int .u64 t762, s_.1], s_.2.1, .bool true]), (10, .pointer (some ⟨s_.2.2, 0, none⟩)), (50, .tuple #[.agg #[.int .u64 t761, .int .u64 t762, s_.1], s_.2.1, .bool true]), (57, .agg #[.int .u64 t761, .int .u64 t762, s_.1]), (58, s_.2.1), (59, .bool true)]) (fun s_ w' => (w'.cell? ⟨gb740, 0, none⟩ = some (.int .i64 a0_0) ∧ w'.cell? ⟨gb740, 1, none⟩ = some (.int .i64 a0_1) ∧ w'.cell? ⟨gb740, 2, none⟩ = some (.int .i64 a0_2) ∧ w'.cell? ⟨gb740, 3, none⟩ = some (.int .u64 a0_3) ∧ w'.cell? ⟨gb740, 4, none⟩ = some (.int .u64 a0_4) ∧ w'.cell? ⟨gb740, 5, none⟩ = some (.int .u64 a0_5) ∧ w'.cell? ⟨gb756, 0, none⟩ = some (.int .u64 t747) ∧ w'.cell? ⟨gb756, 1, none⟩ = some (.int .u64 t748) ∧ w'.cell? ⟨gb756, 2, none⟩ = some (.slice Ao38 t749.length co38)) ∧ (Kd.S (Kd.slice 5 (Kd.int .u8)) 27 w' w.heap.size (fun k_ => some k_ ≠ (s_.1 : Value).ownBlock) (.slice Ao38 t749.length co38) t749) ∧ (Kd.S k51 51 w' w.heap.size (fun k_ => some k_ ≠ (s_.2.1 : Value).ownBlock) v753 t752) ∧ (Kd.S (Kd.slice 5 (Kd.int .u8)) 27 w' w.heap.size (fun k_ => some k_ ≠ (.slice Ao38 t749.length co38 : Value).ownBlock) s_.1 t763) ∧ (Kd.S k51 51 w' w.heap.size (fun k_ => some k_ ≠ (v753 : Value).ownBlock) s_.2.1 t766) ∧ (w'.heap[gb740]? = some (.cells #[.int .i64 a0_0, .int .i64 a0_1, .int .i64 a0_2, .int .u64 a0_3, .int .u64 a0_4, .int .u64 a0_5] 24 (0, 0))) ∧ (w'.heap[gb756]? = some (.cells #[.int .u64 t747, .int .u64 t748, .slice Ao38 t749.length co38] 34 (0, 0))) ∧ (w'.heap[s_.2.2]? = some (.cells #[.int .u64 0, .int .u64 0, .slice none 0 0] 34 (0, 0))) ∧ (w.heap.size ≤ s_.2.2) ∧ (w.heap.size ≤ s_.2.2) ∧ (gb740 ≠ s_.2.2) ∧ (s_.2.2 ≠ gb740) ∧ (gb756 ≠ s_.2.2) ∧ (s_.2.2 ≠ gb756) ∧ (Below w.heap.size w w')) ?_ ?_
                            rotate_left
                            · intro hCont
                              refine two_ (i := 5) (j := 10) (Ni := some 56) (Nj := some 10) #[true, true, true, true, true, true, false, false, false, false, false, false, false, false] #[true, true, true, true, true, false, false, false, false, false, true, false, false, false] rfl rfl rfl rfl (two_of HT_.out (by kernel_rfl)) (by decide) (by decide) (fun K hK => ?_) (fun K hK => ?_)
                              · skip
                                refine goes_ Tryd.func23 (by kernel_rfl) rfl #[.agg #[.int .i64 a0_0, .int .i64 a0_1, .int .i64 a0_2, .int .u64 a0_3, .int .u64 a0_4, .int .u64 a0_5], .agg #[.int .u64 t747, .int .u64 t748, .slice Ao38 t749.length co38], .slice A42 y757.length c42] (by rfl) rfl rfl (by (try simp only [List.map_toArray, List.map_cons, List.map_nil]); first | done | rfl | (simp only [List.length_drop, List.length_take]; rfl)) ?_
                                with_reducible refine (impl_Append.calls kj5 a0_0 a0_1 a0_2 a0_3 a0_4 a0_5 t747 t748 _ _ t749 _ _ y757 t761 t762 t763 t766 true _ ?side5 ?side1 ?side2 ?side3 ?side4 A17.out).mono ?_
                                (case side1 => repeat (first | exact (Kd.S_reads' HO751.out).2.2 | (with_reducible refine Kd.C_alloc ?_ _) | (with_reducible refine Kd.C_drewN ?_ _) | (with_reducible refine Kd.C_drew ?_)))
                                (case side2 => exact (Kd.S_reads' HO751.out).2.1)
                                (case side3 => repeat (first | exact (Kd.C_below HR760.out HB.out) | (with_reducible refine Kd.C_alloc ?_ _) | (with_reducible refine Kd.C_drewN ?_ _) | (with_reducible refine Kd.C_drew ?_)))
                                (case side4 => exact HC760.out)
                                (case side5 => exact Glob.below hG (by repeat (first | (with_reducible first | exact HB.out | apply below_alloc | apply pw_below_drewN | apply below_drew1 | refine below_set ?_ GE740.out | refine below_set ?_ GE756.out) | exact HB.out)))
                                rintro e w43 ⟨v764, v767, rfl, ho0, ho1, hb⟩
                                refine ⟨_, rfl, ?_⟩
                                have n0_ := Aside0.mk (Kd.S_elder' (by (with_reducible repeat (first | apply Kd.S_alloc | apply Kd.S_drewN | apply Kd.S_drew)); exact HO751.out) (Kd.S_base ho0) hb)
                                have n1_ := Aside0.mk (Kd.S_elder' (by (with_reducible repeat (first | apply Kd.S_alloc | apply Kd.S_drewN | apply Kd.S_drew)); exact HO754.out) (Kd.S_base ho1) hb)
                                have n2_ := Aside0.mk (Kd.S_lower (Kd.S_new' ho0 (Kd.S_lt (by (with_reducible repeat (first | apply Kd.S_alloc | apply Kd.S_drewN | apply Kd.S_drew)); exact HO751.out))) (below_size (by repeat (first | (with_reducible first | exact HB.out | apply below_alloc | apply pw_below_drewN | apply below_drew1 | refine below_set ?_ GE740.out | refine below_set ?_ GE756.out) | exact HB.out))))
                                have n3_ := Aside0.mk (Kd.S_lower (Kd.S_new' ho1 (Kd.S_lt (by (with_reducible repeat (first | apply Kd.S_alloc | apply Kd.S_drewN | apply Kd.S_drew)); exact HO754.out))) (below_size (by repeat (first | (with_reducible first | exact HB.out | apply below_alloc | apply pw_below_drewN | apply below_drew1 | refine below_set ?_ GE740.out | refine below_set ?_ GE756.out) | exact HB.out))))
                                have n4_ := Aside0.mk (blk_below (g := gb740) (o := .cells #[.int .i64 a0_0, .int .i64 a0_1, .int .i64 a0_2, .int .u64 a0_3, .int .u64 a0_4, .int .u64 a0_5] 24 (0, 0)) (by (with_reducible repeat (first | refine blk_drewN ?_ _ | refine blk_drew ?_ | refine blk_alloc ?_ _)); exact BK740.out) hb)
                                have n5_ := Aside0.mk (blk_below (g := gb756) (o := .cells #[.int .u64 t747, .int .u64 t748, .slice Ao38 t749.length co38] 34 (0, 0)) (by (with_reducible repeat (first | refine blk_drewN ?_ _ | refine blk_drew ?_ | refine blk_alloc ?_ _)); exact BK756.out) hb)
                                have n6_ := Aside0.mk (below_step (by repeat (first | (with_reducible first | exact HB.out | apply below_alloc | apply pw_below_drewN | apply below_drew1 | refine below_set ?_ GE740.out | refine below_set ?_ GE756.out) | exact HB.out)) hb)
                                clear HO751
                                clear HO754
                                clear BK740
                                clear BK756
                                clear HB
                                have HO751 := n0_
                                have HO754 := n1_
                                have HO765 := n2_
                                have HO768 := n3_
                                have BK740 := n4_
                                have BK756 := n5_
                                have HB := n6_
                                clear n0_ n1_ n2_ n3_ n4_ n5_ n6_
                                (try clear hb)
                                (try clear hb2)
                                (try clear hk)
                                (try clear hi)
                                (try clear ho0)
                                (try clear ho1)
                                refine hK.out _ _ ⟨(blk_cell BK740.out 0).trans rfl, (blk_cell BK740.out 1).trans rfl, (blk_cell BK740.out 2).trans rfl, (blk_cell BK740.out 3).trans rfl, (blk_cell BK740.out 4).trans rfl, (blk_cell BK740.out 5).trans rfl, (blk_cell BK756.out 0).trans rfl, (blk_cell BK756.out 1).trans rfl, (blk_cell BK756.out 2).trans rfl⟩ (fun hHeld => ?_)
                                clear hK K
                                refine norm_ (a' := ?_) ?_ ?_
                                rotate_left
                                · show Act.put _ (some 56) _ = _
                                  simp only [Act.put, List.setIfInBounds_toArray, List.set_cons_zero, List.set_cons_succ, i64_w, i32_w]
                                  rfl
                                refine pure_ (i := 6) (N := some 50) (v := ?_) (a' := ?_) #[true, true, true, true, true, true, true, false, false, false, false, false, false, false] rfl rfl (any_of HT_.out (by kernel_rfl)) (fun _ _ _ h => h) (Or.inl ⟨by rfl, ?_⟩) ?_ ?_
                                rotate_left
                                · intro w'
                                  go_simp
                                  with_reducible rfl
                                rotate_left
                                · simp only [Act.put, List.setIfInBounds_toArray, List.set_cons_zero, List.set_cons_succ, i64_w, i32_w]
                                  rfl
                                refine pure_ (i := 7) (N := some 57) (v := ?_) (a' := ?_) #[true, true, true, true, true, true, true, true, false, false, false, false, false, false] rfl rfl (any_of HT_.out (by kernel_rfl)) (fun _ _ _ h => h) (Or.inl ⟨by rfl, ?_⟩) ?_ ?_
                                rotate_left
                                · intro w'
                                  go_simp
                                  with_reducible rfl
                                rotate_left
                                · simp only [Act.put, List.setIfInBounds_toArray, List.set_cons_zero, List.set_cons_succ, i64_w, i32_w]
                                  rfl
                                refine pure_ (i := 8) (N := some 58) (v := ?_) (a' := ?_) #[true, true, true, true, true, true, true, true, true, false, false, false, false, false] rfl rfl (any_of HT_.out (by kernel_rfl)) (fun _ _ _ h => h) (Or.inl ⟨by rfl, ?_⟩) ?_ ?_
                                rotate_left
                                · intro w'
                                  go_simp
                                  with_reducible rfl
                                rotate_left
                                · simp only [Act.put, List.setIfInBounds_toArray, List.set_cons_zero, List.set_cons_succ, i64_w, i32_w]
                                  rfl
                                refine pure_ (i := 9) (N := some 59) (v := ?_) (a' := ?_) #[true, true, true, true, true, true, true, true, true, true, false, false, false, false] rfl rfl (any_of HT_.out (by kernel_rfl)) (fun _ _ _ h => h) (Or.inl ⟨by rfl, ?_⟩) ?_ ?_
                                rotate_left
                                · intro w'
                                  go_simp
                                  with_reducible rfl
                                rotate_left
                                · simp only [Act.put, List.setIfInBounds_toArray, List.set_cons_zero, List.set_cons_succ, i64_w, i32_w]
                                  rfl
                                refine one_ (i := 10) (N := some 10) #[true, true, true, true, true, true, true, true, true, true, true, false, false, false] rfl rfl (one_of HT_.out (by kernel_rfl)) (by decide) (fun K hK => ?_)
                                refine box_step ?hg (N := 10) ?hd (cs := #[.int .u64 0, .int .u64 0, .slice none 0 0]) (t := 34) ?hr ?_; (case hd => rfl); (case hg => rfl); (case hr => first | (go_simp; done) | (go_simp; rfl))
                                intro gb770 hg w44 hbox hb
                                have n0_ := Aside0.mk (Kd.S_below (by (with_reducible repeat (first | apply Kd.S_alloc | apply Kd.S_drewN | apply Kd.S_drew)); exact HO751.out) hb)
                                have n1_ := Aside0.mk (Kd.S_below (by (with_reducible repeat (first | apply Kd.S_alloc | apply Kd.S_drewN | apply Kd.S_drew)); exact HO754.out) hb)
                                have n2_ := Aside0.mk (Kd.S_below (by (with_reducible repeat (first | apply Kd.S_alloc | apply Kd.S_drewN | apply Kd.S_drew)); exact HO765.out) hb)
                                have n3_ := Aside0.mk (Kd.S_below (by (with_reducible repeat (first | apply Kd.S_alloc | apply Kd.S_drewN | apply Kd.S_drew)); exact HO768.out) hb)
                                have n4_ := Aside0.mk (blk_below (g := gb740) (o := .cells #[.int .i64 a0_0, .int .i64 a0_1, .int .i64 a0_2, .int .u64 a0_3, .int .u64 a0_4, .int .u64 a0_5] 24 (0, 0)) (by (with_reducible repeat (first | refine blk_drewN ?_ _ | refine blk_drew ?_ | refine blk_alloc ?_ _)); exact BK740.out) hb)
                                have n5_ := Aside0.mk (blk_below (g := gb756) (o := .cells #[.int .u64 t747, .int .u64 t748, .slice Ao38 t749.length co38] 34 (0, 0)) (by (with_reducible repeat (first | refine blk_drewN ?_ _ | refine blk_drew ?_ | refine blk_alloc ?_ _)); exact BK756.out) hb)
                                have n6_ := Aside0.mk (below_step (by repeat (first | (with_reducible first | exact HB.out | apply below_alloc | apply pw_below_drewN | apply below_drew1 | refine below_set ?_ GE740.out | refine below_set ?_ GE756.out) | exact HB.out)) hb)
                                have n7_ := Aside0.mk (hbox)
                                have n8_ := Aside0.mk ((by rw [hg]; exact (below_size (by repeat (first | (with_reducible first | exact HB.out | apply below_alloc | apply pw_below_drewN | apply below_drew1 | refine below_set ?_ GE740.out | refine below_set ?_ GE756.out) | exact HB.out))) : w.heap.size ≤ gb770))
                                have n9_ := Aside0.mk ((by rw [hg]; exact (below_size (by repeat (first | (with_reducible first | exact HB.out | apply below_alloc | apply pw_below_drewN | apply below_drew1 | refine below_set ?_ GE740.out | refine below_set ?_ GE756.out) | exact HB.out))) : w.heap.size ≤ gb770))
                                have n10_ := Aside0.mk ((by rw [hg]; exact Nat.ne_of_lt (blk_lt (g := gb740) (o := .cells #[.int .i64 a0_0, .int .i64 a0_1, .int .i64 a0_2, .int .u64 a0_3, .int .u64 a0_4, .int .u64 a0_5] 24 (0, 0)) (by (with_reducible repeat (first | refine blk_drewN ?_ _ | refine blk_drew ?_ | refine blk_alloc ?_ _)); exact BK740.out)) : gb740 ≠ gb770))
                                have n11_ := Aside0.mk ((by rw [hg]; exact Nat.ne_of_gt (blk_lt (g := gb740) (o := .cells #[.int .i64 a0_0, .int .i64 a0_1, .int .i64 a0_2, .int .u64 a0_3, .int .u64 a0_4, .int .u64 a0_5] 24 (0, 0)) (by (with_reducible repeat (first | refine blk_drewN ?_ _ | refine blk_drew ?_ | refine blk_alloc ?_ _)); exact BK740.out)) : gb770 ≠ gb740))
                                have n12_ := Aside0.mk ((by rw [hg]; exact Nat.ne_of_lt (blk_lt (g := gb756) (o := .cells #[.int .u64 t747, .int .u64 t748, .slice Ao38 t749.length co38] 34 (0, 0)) (by (with_reducible repeat (first | refine blk_drewN ?_ _ | refine blk_drew ?_ | refine blk_alloc ?_ _)); exact BK756.out)) : gb756 ≠ gb770))
                                have n13_ := Aside0.mk ((by rw [hg]; exact Nat.ne_of_gt (blk_lt (g := gb756) (o := .cells #[.int .u64 t747, .int .u64 t748, .slice Ao38 t749.length co38] 34 (0, 0)) (by (with_reducible repeat (first | refine blk_drewN ?_ _ | refine blk_drew ?_ | refine blk_alloc ?_ _)); exact BK756.out)) : gb770 ≠ gb756))
                                clear HO751
                                clear HO754
                                clear HO765
                                clear HO768
                                clear BK740
                                clear BK756
                                clear HB
                                have HO751 := n0_
                                have HO754 := n1_
                                have HO765 := n2_
                                have HO768 := n3_
                                have BK740 := n4_
                                have BK756 := n5_
                                have HB := n6_
                                have BK770 := n7_
                                have GW770 := n8_
                                have GE770 := n9_
                                have NB740_770 := n10_
                                have NB770_740 := n11_
                                have NB756_770 := n12_
                                have NB770_756 := n13_
                                clear n0_ n1_ n2_ n3_ n4_ n5_ n6_ n7_ n8_ n9_ n10_ n11_ n12_ n13_
                                clear hb hbox hg
                                refine hK.out _ _ ⟨(blk_cell BK740.out 0).trans rfl, (blk_cell BK740.out 1).trans rfl, (blk_cell BK740.out 2).trans rfl, (blk_cell BK740.out 3).trans rfl, (blk_cell BK740.out 4).trans rfl, (blk_cell BK740.out 5).trans rfl, (blk_cell BK756.out 0).trans rfl, (blk_cell BK756.out 1).trans rfl, (blk_cell BK756.out 2).trans rfl⟩ (fun hHeld => ?_)
                                clear hK K
                                refine norm_ (a' := ?_) ?_ ?_
                                rotate_left
                                · show Act.put _ (some 10) _ = _
                                  simp only [Act.put, List.setIfInBounds_toArray, List.set_cons_zero, List.set_cons_succ, i64_w, i32_w]
                                  rfl
                                exact norm_ (by simp only [putAll, Act.put, List.setIfInBounds_toArray, List.set_cons_zero, List.set_cons_succ]) (hCont (v764, v767, gb770) _ ⟨hHeld, (by (with_reducible repeat (first | apply Kd.S_alloc | apply Kd.S_drewN | apply Kd.S_drew)); exact Kd.S_mono HO751.out (fun _ hk => hk.2)), (by (with_reducible repeat (first | apply Kd.S_alloc | apply Kd.S_drewN | apply Kd.S_drew)); exact Kd.S_mono HO754.out (fun _ hk => hk.2)), (by (with_reducible repeat (first | apply Kd.S_alloc | apply Kd.S_drewN | apply Kd.S_drew)); exact Kd.S_mono HO765.out (fun _ hk => hk.2)), (by (with_reducible repeat (first | apply Kd.S_alloc | apply Kd.S_drewN | apply Kd.S_drew)); exact Kd.S_mono HO768.out (fun _ hk => hk.2)), (by (with_reducible repeat (first | refine blk_drewN ?_ _ | refine blk_drew ?_ | refine blk_alloc ?_ _)); exact BK740.out), (by (with_reducible repeat (first | refine blk_drewN ?_ _ | refine blk_drew ?_ | refine blk_alloc ?_ _)); exact BK756.out), (by (with_reducible repeat (first | refine blk_drewN ?_ _ | refine blk_drew ?_ | refine blk_alloc ?_ _)); exact BK770.out), GW770.out, GE770.out, NB740_770.out, NB770_740.out, NB756_770.out, NB770_756.out, (by repeat (first | (with_reducible first | exact HB.out | apply below_alloc | apply pw_below_drewN | apply below_drew1 | refine below_set ?_ GE740.out | refine below_set ?_ GE756.out | refine below_set ?_ GE770.out) | exact HB.out))⟩)
                              · skip
                                refine box_step ?hg (N := 10) ?hd (cs := #[.int .u64 0, .int .u64 0, .slice none 0 0]) (t := 34) ?hr ?_; (case hd => rfl); (case hg => rfl); (case hr => first | (go_simp; done) | (go_simp; rfl))
                                intro gb770 hg w43 hbox hb
                                have n0_ := Aside0.mk (Kd.S_below (by (with_reducible repeat (first | apply Kd.S_alloc | apply Kd.S_drewN | apply Kd.S_drew)); exact HO751.out) hb)
                                have n1_ := Aside0.mk (Kd.S_below (by (with_reducible repeat (first | apply Kd.S_alloc | apply Kd.S_drewN | apply Kd.S_drew)); exact HO754.out) hb)
                                have n2_ := Aside0.mk (blk_below (g := gb740) (o := .cells #[.int .i64 a0_0, .int .i64 a0_1, .int .i64 a0_2, .int .u64 a0_3, .int .u64 a0_4, .int .u64 a0_5] 24 (0, 0)) (by (with_reducible repeat (first | refine blk_drewN ?_ _ | refine blk_drew ?_ | refine blk_alloc ?_ _)); exact BK740.out) hb)
                                have n3_ := Aside0.mk (blk_below (g := gb756) (o := .cells #[.int .u64 t747, .int .u64 t748, .slice Ao38 t749.length co38] 34 (0, 0)) (by (with_reducible repeat (first | refine blk_drewN ?_ _ | refine blk_drew ?_ | refine blk_alloc ?_ _)); exact BK756.out) hb)
                                have n4_ := Aside0.mk (below_step (by repeat (first | (with_reducible first | exact HB.out | apply below_alloc | apply pw_below_drewN | apply below_drew1 | refine below_set ?_ GE740.out | refine below_set ?_ GE756.out) | exact HB.out)) hb)
                                have n5_ := Aside0.mk (hbox)
                                have n6_ := Aside0.mk ((by rw [hg]; exact (below_size (by repeat (first | (with_reducible first | exact HB.out | apply below_alloc | apply pw_below_drewN | apply below_drew1 | refine below_set ?_ GE740.out | refine below_set ?_ GE756.out) | exact HB.out))) : w.heap.size ≤ gb770))
                                have n7_ := Aside0.mk ((by rw [hg]; exact (below_size (by repeat (first | (with_reducible first | exact HB.out | apply below_alloc | apply pw_below_drewN | apply below_drew1 | refine below_set ?_ GE740.out | refine below_set ?_ GE756.out) | exact HB.out))) : w.heap.size ≤ gb770))
                                have n8_ := Aside0.mk ((by rw [hg]; exact Nat.ne_of_lt (blk_lt (g := gb740) (o := .cells #[.int .i64 a0_0, .int .i64 a0_1, .int .i64 a0_2, .int .u64 a0_3, .int .u64 a0_4, .int .u64 a0_5] 24 (0, 0)) (by (with_reducible repeat (first | refine blk_drewN ?_ _ | refine blk_drew ?_ | refine blk_alloc ?_ _)); exact BK740.out)) : gb740 ≠ gb770))
                                have n9_ := Aside0.mk ((by rw [hg]; exact Nat.ne_of_gt (blk_lt (g := gb740) (o := .cells #[.int .i64 a0_0, .int .i64 a0_1, .int .i64 a0_2, .int .u64 a0_3, .int .u64 a0_4, .int .u64 a0_5] 24 (0, 0)) (by (with_reducible repeat (first | refine blk_drewN ?_ _ | refine blk_drew ?_ | refine blk_alloc ?_ _)); exact BK740.out)) : gb770 ≠ gb740))
                                have n10_ := Aside0.mk ((by rw [hg]; exact Nat.ne_of_lt (blk_lt (g := gb756) (o := .cells #[.int .u64 t747, .int .u64 t748, .slice Ao38 t749.length co38] 34 (0, 0)) (by (with_reducible repeat (first | refine blk_drewN ?_ _ | refine blk_drew ?_ | refine blk_alloc ?_ _)); exact BK756.out)) : gb756 ≠ gb770))
                                have n11_ := Aside0.mk ((by rw [hg]; exact Nat.ne_of_gt (blk_lt (g := gb756) (o := .cells #[.int .u64 t747, .int .u64 t748, .slice Ao38 t749.length co38] 34 (0, 0)) (by (with_reducible repeat (first | refine blk_drewN ?_ _ | refine blk_drew ?_ | refine blk_alloc ?_ _)); exact BK756.out)) : gb770 ≠ gb756))
                                clear HO751
                                clear HO754
                                clear BK740
                                clear BK756
                                clear HB
                                have HO751 := n0_
                                have HO754 := n1_
                                have BK740 := n2_
                                have BK756 := n3_
                                have HB := n4_
                                have BK770 := n5_
                                have GW770 := n6_
                                have GE770 := n7_
                                have NB740_770 := n8_
                                have NB770_740 := n9_
                                have NB756_770 := n10_
                                have NB770_756 := n11_
                                clear n0_ n1_ n2_ n3_ n4_ n5_ n6_ n7_ n8_ n9_ n10_ n11_
                                clear hb hbox hg
                                refine hK.out _ _ ⟨(blk_cell BK740.out 0).trans rfl, (blk_cell BK740.out 1).trans rfl, (blk_cell BK740.out 2).trans rfl, (blk_cell BK740.out 3).trans rfl, (blk_cell BK740.out 4).trans rfl, (blk_cell BK740.out 5).trans rfl, (blk_cell BK756.out 0).trans rfl, (blk_cell BK756.out 1).trans rfl, (blk_cell BK756.out 2).trans rfl⟩ (fun hHeld => ?_)
                                clear hK K
                                refine norm_ (a' := ?_) ?_ ?_
                                rotate_left
                                · show Act.put _ (some 10) _ = _
                                  simp only [Act.put, List.setIfInBounds_toArray, List.set_cons_zero, List.set_cons_succ, i64_w, i32_w]
                                  rfl
                                refine one_ (i := 5) (N := some 56) #[true, true, true, true, true, true, false, false, false, false, true, false, false, false] rfl rfl (one_of HT_.out (by kernel_rfl)) (by decide) (fun K hK => ?_)
                                refine goes_ Tryd.func23 (by kernel_rfl) rfl #[.agg #[.int .i64 a0_0, .int .i64 a0_1, .int .i64 a0_2, .int .u64 a0_3, .int .u64 a0_4, .int .u64 a0_5], .agg #[.int .u64 t747, .int .u64 t748, .slice Ao38 t749.length co38], .slice A42 y757.length c42] (by rfl) rfl rfl (by (try simp only [List.map_toArray, List.map_cons, List.map_nil]); first | done | rfl | (simp only [List.length_drop, List.length_take]; rfl)) ?_
                                with_reducible refine (impl_Append.calls kj5 a0_0 a0_1 a0_2 a0_3 a0_4 a0_5 t747 t748 _ _ t749 _ _ y757 t761 t762 t763 t766 true _ ?side5 ?side1 ?side2 ?side3 ?side4 A17.out).mono ?_
                                (case side1 => repeat (first | exact (Kd.S_reads' HO751.out).2.2 | (with_reducible refine Kd.C_alloc ?_ _) | (with_reducible refine Kd.C_drewN ?_ _) | (with_reducible refine Kd.C_drew ?_)))
                                (case side2 => exact (Kd.S_reads' HO751.out).2.1)
                                (case side3 => repeat (first | exact (Kd.C_below HR760.out HB.out) | (with_reducible refine Kd.C_alloc ?_ _) | (with_reducible refine Kd.C_drewN ?_ _) | (with_reducible refine Kd.C_drew ?_)))
                                (case side4 => exact HC760.out)
                                (case side5 => exact Glob.below hG (by repeat (first | (with_reducible first | exact HB.out | apply below_alloc | apply pw_below_drewN | apply below_drew1 | refine below_set ?_ GE740.out | refine below_set ?_ GE756.out | refine below_set ?_ GE770.out) | exact HB.out)))
                                rintro e w44 ⟨v764, v767, rfl, ho0, ho1, hb⟩
                                refine ⟨_, rfl, ?_⟩
                                have n0_ := Aside0.mk (Kd.S_elder' (by (with_reducible repeat (first | apply Kd.S_alloc | apply Kd.S_drewN | apply Kd.S_drew)); exact HO751.out) (Kd.S_base ho0) hb)
                                have n1_ := Aside0.mk (Kd.S_elder' (by (with_reducible repeat (first | apply Kd.S_alloc | apply Kd.S_drewN | apply Kd.S_drew)); exact HO754.out) (Kd.S_base ho1) hb)
                                have n2_ := Aside0.mk (Kd.S_lower (Kd.S_new' ho0 (Kd.S_lt (by (with_reducible repeat (first | apply Kd.S_alloc | apply Kd.S_drewN | apply Kd.S_drew)); exact HO751.out))) (below_size (by repeat (first | (with_reducible first | exact HB.out | apply below_alloc | apply pw_below_drewN | apply below_drew1 | refine below_set ?_ GE740.out | refine below_set ?_ GE756.out | refine below_set ?_ GE770.out) | exact HB.out))))
                                have n3_ := Aside0.mk (Kd.S_lower (Kd.S_new' ho1 (Kd.S_lt (by (with_reducible repeat (first | apply Kd.S_alloc | apply Kd.S_drewN | apply Kd.S_drew)); exact HO754.out))) (below_size (by repeat (first | (with_reducible first | exact HB.out | apply below_alloc | apply pw_below_drewN | apply below_drew1 | refine below_set ?_ GE740.out | refine below_set ?_ GE756.out | refine below_set ?_ GE770.out) | exact HB.out))))
                                have n4_ := Aside0.mk (blk_below (g := gb740) (o := .cells #[.int .i64 a0_0, .int .i64 a0_1, .int .i64 a0_2, .int .u64 a0_3, .int .u64 a0_4, .int .u64 a0_5] 24 (0, 0)) (by (with_reducible repeat (first | refine blk_drewN ?_ _ | refine blk_drew ?_ | refine blk_alloc ?_ _)); exact BK740.out) hb)
                                have n5_ := Aside0.mk (blk_below (g := gb756) (o := .cells #[.int .u64 t747, .int .u64 t748, .slice Ao38 t749.length co38] 34 (0, 0)) (by (with_reducible repeat (first | refine blk_drewN ?_ _ | refine blk_drew ?_ | refine blk_alloc ?_ _)); exact BK756.out) hb)
                                have n6_ := Aside0.mk (blk_below (g := gb770) (o := .cells #[.int .u64 0, .int .u64 0, .slice none 0 0] 34 (0, 0)) (by (with_reducible repeat (first | refine blk_drewN ?_ _ | refine blk_drew ?_ | refine blk_alloc ?_ _)); exact BK770.out) hb)
                                have n7_ := Aside0.mk (below_step (by repeat (first | (with_reducible first | exact HB.out | apply below_alloc | apply pw_below_drewN | apply below_drew1 | refine below_set ?_ GE740.out | refine below_set ?_ GE756.out | refine below_set ?_ GE770.out) | exact HB.out)) hb)
                                clear HO751
                                clear HO754
                                clear BK740
                                clear BK756
                                clear BK770
                                clear HB
                                have HO751 := n0_
                                have HO754 := n1_
                                have HO765 := n2_
                                have HO768 := n3_
                                have BK740 := n4_
                                have BK756 := n5_
                                have BK770 := n6_
                                have HB := n7_
                                clear n0_ n1_ n2_ n3_ n4_ n5_ n6_ n7_
                                (try clear hb)
                                (try clear hb2)
                                (try clear hk)
                                (try clear hi)
                                (try clear ho0)
                                (try clear ho1)
                                refine hK.out _ _ ⟨(blk_cell BK740.out 0).trans rfl, (blk_cell BK740.out 1).trans rfl, (blk_cell BK740.out 2).trans rfl, (blk_cell BK740.out 3).trans rfl, (blk_cell BK740.out 4).trans rfl, (blk_cell BK740.out 5).trans rfl, (blk_cell BK756.out 0).trans rfl, (blk_cell BK756.out 1).trans rfl, (blk_cell BK756.out 2).trans rfl⟩ (fun hHeld => ?_)
                                clear hK K
                                refine norm_ (a' := ?_) ?_ ?_
                                rotate_left
                                · show Act.put _ (some 56) _ = _
                                  simp only [Act.put, List.setIfInBounds_toArray, List.set_cons_zero, List.set_cons_succ, i64_w, i32_w]
                                  rfl
                                refine pure_ (i := 6) (N := some 50) (v := ?_) (a' := ?_) #[true, true, true, true, true, true, true, false, false, false, true, false, false, false] rfl rfl (any_of HT_.out (by kernel_rfl)) (fun _ _ _ h => h) (Or.inl ⟨by rfl, ?_⟩) ?_ ?_
                                rotate_left
                                · intro w'
                                  go_simp
                                  with_reducible rfl
                                rotate_left
                                · simp only [Act.put, List.setIfInBounds_toArray, List.set_cons_zero, List.set_cons_succ, i64_w, i32_w]
                                  rfl
                                refine pure_ (i := 7) (N := some 57) (v := ?_) (a' := ?_) #[true, true, true, true, true, true, true, true, false, false, true, false, false, false] rfl rfl (any_of HT_.out (by kernel_rfl)) (fun _ _ _ h => h) (Or.inl ⟨by rfl, ?_⟩) ?_ ?_
                                rotate_left
                                · intro w'
                                  go_simp
                                  with_reducible rfl
                                rotate_left
                                · simp only [Act.put, List.setIfInBounds_toArray, List.set_cons_zero, List.set_cons_succ, i64_w, i32_w]
                                  rfl
                                refine pure_ (i := 8) (N := some 58) (v := ?_) (a' := ?_) #[true, true, true, true, true, true, true, true, true, false, true, false, false, false] rfl rfl (any_of HT_.out (by kernel_rfl)) (fun _ _ _ h => h) (Or.inl ⟨by rfl, ?_⟩) ?_ ?_
                                rotate_left
                                · intro w'
                                  go_simp
                                  with_reducible rfl
                                rotate_left
                                · simp only [Act.put, List.setIfInBounds_toArray, List.set_cons_zero, List.set_cons_succ, i64_w, i32_w]
                                  rfl
                                refine pure_ (i := 9) (N := some 59) (v := ?_) (a' := ?_) #[true, true, true, true, true, true, true, true, true, true, true, false, false, false] rfl rfl (any_of HT_.out (by kernel_rfl)) (fun _ _ _ h => h) (Or.inl ⟨by rfl, ?_⟩) ?_ ?_
                                rotate_left
                                · intro w'
                                  go_simp
                                  with_reducible rfl
                                rotate_left
                                · simp only [Act.put, List.setIfInBounds_toArray, List.set_cons_zero, List.set_cons_succ, i64_w, i32_w]
                                  rfl
                                exact norm_ (by simp only [putAll, Act.put, List.setIfInBounds_toArray, List.set_cons_zero, List.set_cons_succ]) (hCont (v764, v767, gb770) _ ⟨hHeld, (by (with_reducible repeat (first | apply Kd.S_alloc | apply Kd.S_drewN | apply Kd.S_drew)); exact Kd.S_mono HO751.out (fun _ hk => hk.2)), (by (with_reducible repeat (first | apply Kd.S_alloc | apply Kd.S_drewN | apply Kd.S_drew)); exact Kd.S_mono HO754.out (fun _ hk => hk.2)), (by (with_reducible repeat (first | apply Kd.S_alloc | apply Kd.S_drewN | apply Kd.S_drew)); exact Kd.S_mono HO765.out (fun _ hk => hk.2)), (by (with_reducible repeat (first | apply Kd.S_alloc | apply Kd.S_drewN | apply Kd.S_drew)); exact Kd.S_mono HO768.out (fun _ hk => hk.2)), (by (with_reducible repeat (first | refine blk_drewN ?_ _ | refine blk_drew ?_ | refine blk_alloc ?_ _)); exact BK740.out), (by (with_reducible repeat (first | refine blk_drewN ?_ _ | refine blk_drew ?_ | refine blk_alloc ?_ _)); exact BK756.out), (by (with_reducible repeat (first | refine blk_drewN ?_ _ | refine blk_drew ?_ | refine blk_alloc ?_ _)); exact BK770.out), GW770.out, GE770.out, NB740_770.out, NB770_740.out, NB756_770.out, NB770_756.out, (by repeat (first | (with_reducible first | exact HB.out | apply below_alloc | apply pw_below_drewN | apply below_drew1 | refine below_set ?_ GE740.out | refine below_set ?_ GE756.out | refine below_set ?_ GE770.out) | exact HB.out))⟩)
                            rintro ⟨v764, v767, gb770⟩ w45 ⟨hS_, h0_, h1_, h2_, h3_, h4_, h5_, h6_, h7_, h8_, h9_, h10_, h11_, h12_, h13_⟩
                            have n0_ : Aside0 (Kd.S (Kd.slice 5 (Kd.int .u8)) 27 w45 w.heap.size (fun k_ => some k_ ≠ (v764 : Value).ownBlock) (.slice Ao38 t749.length co38) t749) := ⟨h0_⟩
                            have n1_ : Aside0 (Kd.S k51 51 w45 w.heap.size (fun k_ => some k_ ≠ (v767 : Value).ownBlock) v753 t752) := ⟨h1_⟩
                            have n2_ : Aside0 (Kd.S (Kd.slice 5 (Kd.int .u8)) 27 w45 w.heap.size (fun k_ => some k_ ≠ (.slice Ao38 t749.length co38 : Value).ownBlock) v764 t763) := ⟨h2_⟩
                            have n3_ : Aside0 (Kd.S k51 51 w45 w.heap.size (fun k_ => some k_ ≠ (v753 : Value).ownBlock) v767 t766) := ⟨h3_⟩
                            have n4_ : Aside0 (w45.heap[gb740]? = some (.cells #[.int .i64 a0_0, .int .i64 a0_1, .int .i64 a0_2, .int .u64 a0_3, .int .u64 a0_4, .int .u64 a0_5] 24 (0, 0))) := ⟨h4_⟩
                            have n5_ : Aside0 (w45.heap[gb756]? = some (.cells #[.int .u64 t747, .int .u64 t748, .slice Ao38 t749.length co38] 34 (0, 0))) := ⟨h5_⟩
                            have n6_ : Aside0 (w45.heap[gb770]? = some (.cells #[.int .u64 0, .int .u64 0, .slice none 0 0] 34 (0, 0))) := ⟨h6_⟩
                            have n7_ : Aside0 (w.heap.size ≤ gb770) := ⟨h7_⟩
                            have n8_ : Aside0 (w.heap.size ≤ gb770) := ⟨h8_⟩
                            have n9_ : Aside0 (gb740 ≠ gb770) := ⟨h9_⟩
                            have n10_ : Aside0 (gb770 ≠ gb740) := ⟨h10_⟩
                            have n11_ : Aside0 (gb756 ≠ gb770) := ⟨h11_⟩
                            have n12_ : Aside0 (gb770 ≠ gb756) := ⟨h12_⟩
                            have n13_ : Aside0 (Below w.heap.size w w45) := ⟨h13_⟩
                            clear HO751
                            clear HO754
                            clear BK740
                            clear BK756
                            clear HB
                            clear h0_ h1_ h2_ h3_ h4_ h5_ h6_ h7_ h8_ h9_ h10_ h11_ h12_ h13_
                            have HO751 := n0_
                            have HO754 := n1_
                            have HO765 := n2_
                            have HO768 := n3_
                            have BK740 := n4_
                            have BK756 := n5_
                            have BK770 := n6_
                            have GW770 := n7_
                            have GE770 := n8_
                            have NB740_770 := n9_
                            have NB770_740 := n10_
                            have NB756_770 := n11_
                            have NB770_756 := n12_
                            have HB := n13_
                            clear n0_ n1_ n2_ n3_ n4_ n5_ n6_ n7_ n8_ n9_ n10_ n11_ n12_ n13_
                            have hHeld : w45.cell? ⟨gb740, 0, none⟩ = some (.int .i64 a0_0) ∧ w45.cell? ⟨gb740, 1, none⟩ = some (.int .i64 a0_1) ∧ w45.cell? ⟨gb740, 2, none⟩ = some (.int .i64 a0_2) ∧ w45.cell? ⟨gb740, 3, none⟩ = some (.int .u64 a0_3) ∧ w45.cell? ⟨gb740, 4, none⟩ = some (.int .u64 a0_4) ∧ w45.cell? ⟨gb740, 5, none⟩ = some (.int .u64 a0_5) ∧ w45.cell? ⟨gb756, 0, none⟩ = some (.int .u64 t747) ∧ w45.cell? ⟨gb756, 1, none⟩ = some (.int .u64 t748) ∧ w45.cell? ⟨gb756, 2, none⟩ = some (.slice Ao38 t749.length co38) := hS_
                            obtain ⟨Ao48, co48, eo48⟩ := Kd.S_slice HO765.out
                            (first | subst eo48 | (injection eo48 with f1_ f2_ f3_; have f4_ := f1_.symm; have f5_ := f3_.symm; clear f1_ f2_ f3_; subst f4_; subst f5_))
                            refine norm_ (a' := ?_) ?_ ?_
                            rotate_left
                            · simp only [putAll, Act.put, List.setIfInBounds_toArray, List.set_cons_zero, List.set_cons_succ]
                              rfl
                            refine one_ (i := 11) (N := none) #[true, true, true, true, true, true, true, true, true, true, true, true, false, false] rfl rfl (one_of HT_.out (by kernel_rfl)) (by decide) (fun K hK => ?_)
                            have hs46 : w45.cell? ⟨gb770, 0, none⟩ = some (.int .u64 0) := (blk_cell BK770.out 0).trans rfl
                            have hfs46 := blk_frozen BK770.out 0
                            have hns46_0 := NB740_770.out
                            have hns46_1 := NB756_770.out
                            have hms46_0 := NB770_740.out
                            have hms46_1 := NB770_756.out
                            have hs47 : w45.cell? ⟨gb770, 1, none⟩ = some (.int .u64 0) := (blk_cell BK770.out 1).trans rfl
                            have hfs47 := blk_frozen BK770.out 1
                            have hns47_0 := NB740_770.out
                            have hns47_1 := NB756_770.out
                            have hms47_0 := NB770_740.out
                            have hms47_1 := NB770_756.out
                            have hs49 : w45.cell? ⟨gb770, 2, none⟩ = some (.slice none 0 0) := (blk_cell BK770.out 2).trans rfl
                            have hfs49 := blk_frozen BK770.out 2
                            have hns49_0 := NB740_770.out
                            have hns49_1 := NB756_770.out
                            have hms49_0 := NB770_740.out
                            have hms49_1 := NB770_756.out
                            refine skip_ (w1 := ?_) (by rfl) rfl ?_ ?_
                            rotate_left
                            · go_simp
                              rfl
                            refine hK.out _ _ ⟨((cell_far (p := ⟨gb770, _, none⟩) NB740_770.out _).trans (((cell_far (p := ⟨gb770, _, none⟩) NB740_770.out _).trans (((cell_far (p := ⟨gb770, _, none⟩) NB740_770.out _).trans (hHeld.1)))))), ((cell_far (p := ⟨gb770, _, none⟩) NB740_770.out _).trans (((cell_far (p := ⟨gb770, _, none⟩) NB740_770.out _).trans (((cell_far (p := ⟨gb770, _, none⟩) NB740_770.out _).trans (hHeld.2.1)))))), ((cell_far (p := ⟨gb770, _, none⟩) NB740_770.out _).trans (((cell_far (p := ⟨gb770, _, none⟩) NB740_770.out _).trans (((cell_far (p := ⟨gb770, _, none⟩) NB740_770.out _).trans (hHeld.2.2.1)))))), ((cell_far (p := ⟨gb770, _, none⟩) NB740_770.out _).trans (((cell_far (p := ⟨gb770, _, none⟩) NB740_770.out _).trans (((cell_far (p := ⟨gb770, _, none⟩) NB740_770.out _).trans (hHeld.2.2.2.1)))))), ((cell_far (p := ⟨gb770, _, none⟩) NB740_770.out _).trans (((cell_far (p := ⟨gb770, _, none⟩) NB740_770.out _).trans (((cell_far (p := ⟨gb770, _, none⟩) NB740_770.out _).trans (hHeld.2.2.2.2.1)))))), ((cell_far (p := ⟨gb770, _, none⟩) NB740_770.out _).trans (((cell_far (p := ⟨gb770, _, none⟩) NB740_770.out _).trans (((cell_far (p := ⟨gb770, _, none⟩) NB740_770.out _).trans (hHeld.2.2.2.2.2.1)))))), ((cell_far (p := ⟨gb770, _, none⟩) NB756_770.out _).trans (((cell_far (p := ⟨gb770, _, none⟩) NB756_770.out _).trans (((cell_far (p := ⟨gb770, _, none⟩) NB756_770.out _).trans (hHeld.2.2.2.2.2.2.1)))))), ((cell_far (p := ⟨gb770, _, none⟩) NB756_770.out _).trans (((cell_far (p := ⟨gb770, _, none⟩) NB756_770.out _).trans (((cell_far (p := ⟨gb770, _, none⟩) NB756_770.out _).trans (hHeld.2.2.2.2.2.2.2.1)))))), ((cell_far (p := ⟨gb770, _, none⟩) NB756_770.out _).trans (((cell_far (p := ⟨gb770, _, none⟩) NB756_770.out _).trans (((cell_far (p := ⟨gb770, _, none⟩) NB756_770.out _).trans (hHeld.2.2.2.2.2.2.2.2))))))⟩ (fun hHeld => ?_)
                            clear hK K
                            refine pure_ (i := 12) (N := some 11) (v := ?_) (a' := ?_) #[true, true, true, true, true, true, true, true, true, true, true, true, true, false] rfl rfl (any_of HT_.out (by kernel_rfl)) (fun _ _ _ h => h) (Or.inl ⟨by rfl, ?_⟩) ?_ ?_
                            rotate_left
                            · intro w'
                              go_simp
                              with_reducible rfl
                            rotate_left
                            · simp only [Act.put, List.setIfInBounds_toArray, List.set_cons_zero, List.set_cons_succ, i64_w, i32_w]
                              rfl
                            refine pure_ (i := 13) (N := some 12) (v := ?_) (a' := ?_) #[true, true, true, true, true, true, true, true, true, true, true, true, true, true] rfl rfl (any_of HT_.out (by kernel_rfl)) (fun _ _ _ h => h) (Or.inl ⟨by rfl, ?_⟩) ?_ ?_
                            rotate_left
                            · intro w'
                              go_simp
                              with_reducible rfl
                            rotate_left
                            · simp only [Act.put, List.setIfInBounds_toArray, List.set_cons_zero, List.set_cons_succ, i64_w, i32_w]
                              rfl
                            refine done_ (done_of HT_.out (by kernel_rfl)) ?_
                            have hnb50 := NB740_756.out
                            have hnc50 := NB756_740.out
                            have hnb51 := NB740_770.out
                            have hnc51 := NB770_740.out
                            have hcz52_0 : w45.cell? ⟨gb740, 0, none⟩ = some (.int .i64 a0_0) := (blk_cell BK740.out 0).trans rfl
                            have hcz52_1 : w45.cell? ⟨gb740, 1, none⟩ = some (.int .i64 a0_1) := (blk_cell BK740.out 1).trans rfl
                            have hcz52_2 : w45.cell? ⟨gb740, 2, none⟩ = some (.int .i64 a0_2) := (blk_cell BK740.out 2).trans rfl
                            have hcz52_3 : w45.cell? ⟨gb740, 3, none⟩ = some (.int .u64 a0_3) := (blk_cell BK740.out 3).trans rfl
                            have hcz52_4 : w45.cell? ⟨gb740, 4, none⟩ = some (.int .u64 a0_4) := (blk_cell BK740.out 4).trans rfl
                            have hcz52_5 : w45.cell? ⟨gb740, 5, none⟩ = some (.int .u64 a0_5) := (blk_cell BK740.out 5).trans rfl
                            have hfz52_0 := blk_frozen BK740.out 0
                            have hfz52_1 := blk_frozen BK740.out 1
                            have hfz52_2 := blk_frozen BK740.out 2
                            have hfz52_3 := blk_frozen BK740.out 3
                            have hfz52_4 := blk_frozen BK740.out 4
                            have hfz52_5 := blk_frozen BK740.out 5
                            have hnb53 := NB756_770.out
                            have hnc53 := NB770_756.out
                            have hcz54_0 : w45.cell? ⟨gb756, 0, none⟩ = some (.int .u64 t747) := (blk_cell BK756.out 0).trans rfl
                            have hcz54_1 : w45.cell? ⟨gb756, 1, none⟩ = some (.int .u64 t748) := (blk_cell BK756.out 1).trans rfl
                            have hcz54_2 : w45.cell? ⟨gb756, 2, none⟩ = some (.slice Ao38 t749.length co38) := (blk_cell BK756.out 2).trans rfl
                            have hfz54_0 := blk_frozen BK756.out 0
                            have hfz54_1 := blk_frozen BK756.out 1
                            have hfz54_2 := blk_frozen BK756.out 2
                            try go_wp2_with (first | ((with_reducible refine gate_callee (f := 24) rfl ?_); refine goesL_ (some 63) rfl rfl Tryd.func24 (by kernel_rfl) rfl #[.agg #[.int .i64 a0_0, .int .i64 a0_1, .int .i64 a0_2, .int .u64 a0_3, .int .u64 a0_4, .int .u64 a0_5], .agg #[.int .u64 t747, .int .u64 t748, .slice Ao38 t749.length co38]] rfl (by (try simp only [List.map_toArray, List.map_cons, List.map_nil]); first | done | rfl | (simp only [List.length_drop, List.length_take]; rfl)) ?_; (with_reducible refine (impl_RootHash.calls kj5 a0_0 a0_1 a0_2 a0_3 a0_4 a0_5 t747 t748 _ _ t749 t771 t774 true _ ?side3 ?side1 ?side2 A18.out).mono ?_); (case side1 => refine (Kd.S_reads' (e := 27) (base := w.heap.size) (ok := fun k_ => some k_ ≠ (.slice Ao48 t763.length co48 : Value).ownBlock) (n := t749.length) (c := co38) ?_).2.2; exact (by (with_reducible repeat (first | apply Kd.S_alloc | apply Kd.S_drewN | apply Kd.S_drew)); exact (Kd.S_mono (Kd.S_far (p := ⟨gb770, 2, none⟩) (Kd.S_far (p := ⟨gb770, 1, none⟩) (Kd.S_far (p := ⟨gb770, 0, none⟩) (Kd.S_types HO751.out BK770.out (by decide)) (fun _ hk => hk.2) (.int .u64 t761)) (fun _ hk => hk.2) (.int .u64 t762)) (fun _ hk => hk.2) (.slice Ao48 t763.length co48)) (fun _ h_ => h_.1)))); (case side2 => exact (Kd.S_reads' HO751.out).2.1); (case side3 => exact Glob.below hG (by repeat (first | (with_reducible first | exact HB.out | apply below_alloc | apply pw_below_drewN | apply below_drew1 | refine below_set ?_ GE740.out | refine below_set ?_ GE756.out | refine below_set ?_ GE770.out) | exact HB.out))); rintro e w55 ⟨v772, v775, rfl, ho0, ho1, hb⟩; refine ⟨_, rfl, ?_⟩; have n0_ := Aside0.mk (Kd.S_elder' (by (with_reducible repeat (first | apply Kd.S_alloc | apply Kd.S_drewN | apply Kd.S_drew)); exact (Kd.S_mono (Kd.S_far (p := ⟨gb770, 2, none⟩) (Kd.S_far (p := ⟨gb770, 1, none⟩) (Kd.S_far (p := ⟨gb770, 0, none⟩) (Kd.S_types HO751.out BK770.out (by decide)) (fun _ hk => hk.2) (.int .u64 t761)) (fun _ hk => hk.2) (.int .u64 t762)) (fun _ hk => hk.2) (.slice Ao48 t763.length co48)) (fun _ h_ => h_.1))) (Kd.R_base ho0) hb); have n1_ := Aside0.mk (Kd.S_mono (Kd.S_told (Kd.S_told (Kd.S_old (by (with_reducible repeat (first | apply Kd.S_alloc | apply Kd.S_drewN | apply Kd.S_drew)); exact (Kd.S_mono (Kd.S_far (p := ⟨gb770, 2, none⟩) (Kd.S_far (p := ⟨gb770, 1, none⟩) (Kd.S_far (p := ⟨gb770, 0, none⟩) (Kd.S_types HO754.out BK770.out (by decide)) (fun _ hk => hk.2) (.int .u64 t761)) (fun _ hk => hk.2) (.int .u64 t762)) (fun _ hk => hk.2) (.slice Ao48 t763.length co48)) (fun _ h_ => h_.1))) hb) (Kd.R_base ho0)) (Kd.S_base ho1)) (fun _ h_ => h_.1)); have n2_ := Aside0.mk (Kd.S_elder' (by (with_reducible repeat (first | apply Kd.S_alloc | apply Kd.S_drewN | apply Kd.S_drew)); exact (Kd.S_mono (Kd.S_far (p := ⟨gb770, 2, none⟩) (Kd.S_far (p := ⟨gb770, 1, none⟩) (Kd.S_far (p := ⟨gb770, 0, none⟩) (Kd.S_types HO765.out BK770.out (by decide)) (fun _ hk => hk.2) (.int .u64 t761)) (fun _ hk => hk.2) (.int .u64 t762)) (fun _ hk => hk.2) (.slice Ao48 t763.length co48)) (fun _ h_ => h_.1))) (Kd.R_base ho0) hb); have n3_ := Aside0.mk (Kd.S_mono (Kd.S_told (Kd.S_told (Kd.S_old (by (with_reducible repeat (first | apply Kd.S_alloc | apply Kd.S_drewN | apply Kd.S_drew)); exact (Kd.S_mono (Kd.S_far (p := ⟨gb770, 2, none⟩) (Kd.S_far (p := ⟨gb770, 1, none⟩) (Kd.S_far (p := ⟨gb770, 0, none⟩) (Kd.S_types HO768.out BK770.out (by decide)) (fun _ hk => hk.2) (.int .u64 t761)) (fun _ hk => hk.2) (.int .u64 t762)) (fun _ hk => hk.2) (.slice Ao48 t763.length co48)) (fun _ h_ => h_.1))) hb) (Kd.R_base ho0)) (Kd.S_base ho1)) (fun _ h_ => h_.1)); have n4_ := Aside0.mk (Kd.R_lower ho0 (below_size (by repeat (first | (with_reducible first | exact HB.out | apply below_alloc | apply pw_below_drewN | apply below_drew1 | refine below_set ?_ GE740.out | refine below_set ?_ GE756.out | refine below_set ?_ GE770.out) | exact HB.out)))); have n5_ := Aside0.mk (Kd.S_lower (Kd.S_new' (Kd.S_new' ho1 (Kd.S_lt (by (with_reducible repeat (first | apply Kd.S_alloc | apply Kd.S_drewN | apply Kd.S_drew)); exact (Kd.S_mono (Kd.S_far (p := ⟨gb770, 2, none⟩) (Kd.S_far (p := ⟨gb770, 1, none⟩) (Kd.S_far (p := ⟨gb770, 0, none⟩) (Kd.S_types HO754.out BK770.out (by decide)) (fun _ hk => hk.2) (.int .u64 t761)) (fun _ hk => hk.2) (.int .u64 t762)) (fun _ hk => hk.2) (.slice Ao48 t763.length co48)) (fun _ h_ => h_.1))))) (Kd.S_lt (by (with_reducible repeat (first | apply Kd.S_alloc | apply Kd.S_drewN | apply Kd.S_drew)); exact (Kd.S_mono (Kd.S_far (p := ⟨gb770, 2, none⟩) (Kd.S_far (p := ⟨gb770, 1, none⟩) (Kd.S_far (p := ⟨gb770, 0, none⟩) (Kd.S_types HO768.out BK770.out (by decide)) (fun _ hk => hk.2) (.int .u64 t761)) (fun _ hk => hk.2) (.int .u64 t762)) (fun _ hk => hk.2) (.slice Ao48 t763.length co48)) (fun _ h_ => h_.1))))) (below_size (by repeat (first | (with_reducible first | exact HB.out | apply below_alloc | apply pw_below_drewN | apply below_drew1 | refine below_set ?_ GE740.out | refine below_set ?_ GE756.out | refine below_set ?_ GE770.out) | exact HB.out)))); have n6_ := Aside0.mk (blk_below (g := gb740) (o := .cells #[.int .i64 a0_0, .int .i64 a0_1, .int .i64 a0_2, .int .u64 a0_3, .int .u64 a0_4, .int .u64 a0_5] 24 (0, 0)) (by (with_reducible repeat (first | refine blk_drewN ?_ _ | refine blk_drew ?_ | refine blk_alloc ?_ _)); refine blk_far ?_ NB740_770.out _; (with_reducible repeat (first | refine blk_drewN ?_ _ | refine blk_drew ?_ | refine blk_alloc ?_ _)); refine blk_far ?_ NB740_770.out _; (with_reducible repeat (first | refine blk_drewN ?_ _ | refine blk_drew ?_ | refine blk_alloc ?_ _)); refine blk_far ?_ NB740_770.out _; (with_reducible repeat (first | refine blk_drewN ?_ _ | refine blk_drew ?_ | refine blk_alloc ?_ _)); exact BK740.out) hb); have n7_ := Aside0.mk (blk_below (g := gb756) (o := .cells #[.int .u64 t747, .int .u64 t748, .slice Ao38 t749.length co38] 34 (0, 0)) (by (with_reducible repeat (first | refine blk_drewN ?_ _ | refine blk_drew ?_ | refine blk_alloc ?_ _)); refine blk_far ?_ NB756_770.out _; (with_reducible repeat (first | refine blk_drewN ?_ _ | refine blk_drew ?_ | refine blk_alloc ?_ _)); refine blk_far ?_ NB756_770.out _; (with_reducible repeat (first | refine blk_drewN ?_ _ | refine blk_drew ?_ | refine blk_alloc ?_ _)); refine blk_far ?_ NB756_770.out _; (with_reducible repeat (first | refine blk_drewN ?_ _ | refine blk_drew ?_ | refine blk_alloc ?_ _)); exact BK756.out) hb); have n8_ := Aside0.mk (blk_below (g := gb770) (o := .cells #[.int .u64 t761, .int .u64 t762, .slice Ao48 t763.length co48] 34 (0, 0)) (by (with_reducible repeat (first | refine blk_drewN ?_ _ | refine blk_drew ?_ | refine blk_alloc ?_ _)); refine blk_put (cs := #[.int .u64 t761, .int .u64 t762, .slice none 0 0]) ?_ 2 _ rfl; (with_reducible repeat (first | refine blk_drewN ?_ _ | refine blk_drew ?_ | refine blk_alloc ?_ _)); refine blk_put (cs := #[.int .u64 t761, .int .u64 0, .slice none 0 0]) ?_ 1 _ rfl; (with_reducible repeat (first | refine blk_drewN ?_ _ | refine blk_drew ?_ | refine blk_alloc ?_ _)); refine blk_put (cs := #[.int .u64 0, .int .u64 0, .slice none 0 0]) ?_ 0 _ rfl; (with_reducible repeat (first | refine blk_drewN ?_ _ | refine blk_drew ?_ | refine blk_alloc ?_ _)); exact BK770.out) hb); have n9_ := Aside0.mk (below_step (by repeat (first | (with_reducible first | exact HB.out | apply below_alloc | apply pw_below_drewN | apply below_drew1 | refine below_set ?_ GE740.out | refine below_set ?_ GE756.out | refine below_set ?_ GE770.out) | exact HB.out)) hb); clear HO751; clear HO754; clear HO765; clear HO768; clear BK740; clear BK756; clear BK770; clear HB; have HO751 := n0_; have HO754 := n1_; have HO765 := n2_; have HO768 := n3_; have HO773 := n4_; have HO776 := n5_; have BK740 := n6_; have BK756 := n7_; have BK770 := n8_; have HB := n9_; clear n0_ n1_ n2_ n3_ n4_ n5_ n6_ n7_ n8_ n9_; (try clear hb); (try clear hb2); (try clear hk); (try clear hi); (try clear ho0); (try clear ho1); have hcz56_0 : w55.cell? ⟨gb740, 0, none⟩ = some (.int .i64 a0_0) := (blk_cell BK740.out 0).trans rfl; have hcz56_1 : w55.cell? ⟨gb740, 1, none⟩ = some (.int .i64 a0_1) := (blk_cell BK740.out 1).trans rfl; have hcz56_2 : w55.cell? ⟨gb740, 2, none⟩ = some (.int .i64 a0_2) := (blk_cell BK740.out 2).trans rfl; have hcz56_3 : w55.cell? ⟨gb740, 3, none⟩ = some (.int .u64 a0_3) := (blk_cell BK740.out 3).trans rfl; have hcz56_4 : w55.cell? ⟨gb740, 4, none⟩ = some (.int .u64 a0_4) := (blk_cell BK740.out 4).trans rfl; have hcz56_5 : w55.cell? ⟨gb740, 5, none⟩ = some (.int .u64 a0_5) := (blk_cell BK740.out 5).trans rfl; have hfz56_0 := blk_frozen BK740.out 0; have hfz56_1 := blk_frozen BK740.out 1; have hfz56_2 := blk_frozen BK740.out 2; have hfz56_3 := blk_frozen BK740.out 3; have hfz56_4 := blk_frozen BK740.out 4; have hfz56_5 := blk_frozen BK740.out 5; have hcz57_0 : w55.cell? ⟨gb770, 0, none⟩ = some (.int .u64 t761) := (blk_cell BK770.out 0).trans rfl; have hcz57_1 : w55.cell? ⟨gb770, 1, none⟩ = some (.int .u64 t762) := (blk_cell BK770.out 1).trans rfl; have hcz57_2 : w55.cell? ⟨gb770, 2, none⟩ = some (.slice Ao48 t763.length co48) := (blk_cell BK770.out 2).trans rfl; have hfz57_0 := blk_frozen BK770.out 0; have hfz57_1 := blk_frozen BK770.out 1; have hfz57_2 := blk_frozen BK770.out 2) | ((with_reducible refine gate_callee (f := 24) rfl ?_); refine goesL_ (some 70) rfl rfl Tryd.func24 (by kernel_rfl) rfl #[.agg #[.int .i64 a0_0, .int .i64 a0_1, .int .i64 a0_2, .int .u64 a0_3, .int .u64 a0_4, .int .u64 a0_5], .agg #[.int .u64 t761, .int .u64 t762, .slice Ao48 t763.length co48]] rfl (by (try simp only [List.map_toArray, List.map_cons, List.map_nil]); first | done | rfl | (simp only [List.length_drop, List.length_take]; rfl)) ?_; (with_reducible refine (impl_RootHash.calls kj5 a0_0 a0_1 a0_2 a0_3 a0_4 a0_5 t761 t762 _ _ t763 t778 t781 true _ ?side3 ?side1 ?side2 A19.out).mono ?_); (case side1 => repeat (first | exact (Kd.S_reads' HO765.out).2.2 | (with_reducible refine Kd.C_alloc ?_ _) | (with_reducible refine Kd.C_drewN ?_ _) | (with_reducible refine Kd.C_drew ?_))); (case side2 => exact (Kd.S_reads' HO765.out).2.1); (case side3 => exact Glob.below hG (by repeat (first | (with_reducible first | exact HB.out | apply below_alloc | apply pw_below_drewN | apply below_drew1 | refine below_set ?_ GE740.out | refine below_set ?_ GE756.out | refine below_set ?_ GE770.out) | exact HB.out))); rintro e w58 ⟨v779, v782, rfl, ho0, ho1, hb⟩; refine ⟨_, rfl, ?_⟩; have n0_ := Aside0.mk (Kd.S_elder' (by (with_reducible repeat (first | apply Kd.S_alloc | apply Kd.S_drewN | apply Kd.S_drew)); exact HO751.out) (Kd.R_base ho0) hb); have n1_ := Aside0.mk (Kd.S_mono (Kd.S_told (Kd.S_told (Kd.S_old (by (with_reducible repeat (first | apply Kd.S_alloc | apply Kd.S_drewN | apply Kd.S_drew)); exact HO754.out) hb) (Kd.R_base ho0)) (Kd.S_base ho1)) (fun _ h_ => h_.1)); have n2_ := Aside0.mk (Kd.S_elder' (by (with_reducible repeat (first | apply Kd.S_alloc | apply Kd.S_drewN | apply Kd.S_drew)); exact HO765.out) (Kd.R_base ho0) hb); have n3_ := Aside0.mk (Kd.S_mono (Kd.S_told (Kd.S_told (Kd.S_old (by (with_reducible repeat (first | apply Kd.S_alloc | apply Kd.S_drewN | apply Kd.S_drew)); exact HO768.out) hb) (Kd.R_base ho0)) (Kd.S_base ho1)) (fun _ h_ => h_.1)); have n4_ := Aside0.mk (Kd.R_elder' (by (with_reducible repeat (first | apply Kd.R_alloc | apply Kd.R_drewN | apply Kd.R_drew)); exact HO773.out) (Kd.R_base ho0) hb); have n5_ := Aside0.mk (Kd.S_mono (Kd.S_told (Kd.S_told (Kd.S_old (by (with_reducible repeat (first | apply Kd.S_alloc | apply Kd.S_drewN | apply Kd.S_drew)); exact HO776.out) hb) (Kd.R_base ho0)) (Kd.S_base ho1)) (fun _ h_ => h_.1)); have n6_ := Aside0.mk (Kd.R_lower (Kd.R_new' ho0 (Kd.R_lt (by (with_reducible repeat (first | apply Kd.R_alloc | apply Kd.R_drewN | apply Kd.R_drew)); exact HO773.out))) (below_size (by repeat (first | (with_reducible first | exact HB.out | apply below_alloc | apply pw_below_drewN | apply below_drew1 | refine below_set ?_ GE740.out | refine below_set ?_ GE756.out | refine below_set ?_ GE770.out) | exact HB.out)))); have n7_ := Aside0.mk (Kd.S_lower (Kd.S_new' (Kd.S_new' (Kd.S_new' (Kd.S_new' ho1 (Kd.S_lt (by (with_reducible repeat (first | apply Kd.S_alloc | apply Kd.S_drewN | apply Kd.S_drew)); exact HO754.out))) (Kd.S_lt (by (with_reducible repeat (first | apply Kd.S_alloc | apply Kd.S_drewN | apply Kd.S_drew)); exact HO768.out))) (Kd.R_lt (by (with_reducible repeat (first | apply Kd.R_alloc | apply Kd.R_drewN | apply Kd.R_drew)); exact HO773.out))) (Kd.S_lt (by (with_reducible repeat (first | apply Kd.S_alloc | apply Kd.S_drewN | apply Kd.S_drew)); exact HO776.out))) (below_size (by repeat (first | (with_reducible first | exact HB.out | apply below_alloc | apply pw_below_drewN | apply below_drew1 | refine below_set ?_ GE740.out | refine below_set ?_ GE756.out | refine below_set ?_ GE770.out) | exact HB.out)))); have n8_ := Aside0.mk (blk_below (g := gb740) (o := .cells #[.int .i64 a0_0, .int .i64 a0_1, .int .i64 a0_2, .int .u64 a0_3, .int .u64 a0_4, .int .u64 a0_5] 24 (0, 0)) (by (with_reducible repeat (first | refine blk_drewN ?_ _ | refine blk_drew ?_ | refine blk_alloc ?_ _)); exact BK740.out) hb); have n9_ := Aside0.mk (blk_below (g := gb756) (o := .cells #[.int .u64 t747, .int .u64 t748, .slice Ao38 t749.length co38] 34 (0, 0)) (by (with_reducible repeat (first | refine blk_drewN ?_ _ | refine blk_drew ?_ | refine blk_alloc ?_ _)); exact BK756.out) hb); have n10_ := Aside0.mk (blk_below (g := gb770) (o := .cells #[.int .u64 t761, .int .u64 t762, .slice Ao48 t763.length co48] 34 (0, 0)) (by (with_reducible repeat (first | refine blk_drewN ?_ _ | refine blk_drew ?_ | refine blk_alloc ?_ _)); exact BK770.out) hb); have n11_ := Aside0.mk (below_step (by repeat (first | (with_reducible first | exact HB.out | apply below_alloc | apply pw_below_drewN | apply below_drew1 | refine below_set ?_ GE740.out | refine below_set ?_ GE756.out | refine below_set ?_ GE770.out) | exact HB.out)) hb); clear HO751; clear HO754; clear HO765; clear HO768; clear HO773; clear HO776; clear BK740; clear BK756; clear BK770; clear HB; have HO751 := n0_; have HO754 := n1_; have HO765 := n2_; have HO768 := n3_; have HO773 := n4_; have HO776 := n5_; have HO780 := n6_; have HO783 := n7_; have BK740 := n8_; have BK756 := n9_; have BK770 := n10_; have HB := n11_; clear n0_ n1_ n2_ n3_ n4_ n5_ n6_ n7_ n8_ n9_ n10_ n11_; (try clear hb); (try clear hb2); (try clear hk); (try clear hi); (try clear ho0); (try clear ho1); have hcz59_0 : w58.cell? ⟨gb740, 0, none⟩ = some (.int .i64 a0_0) := (blk_cell BK740.out 0).trans rfl; have hcz59_1 : w58.cell? ⟨gb740, 1, none⟩ = some (.int .i64 a0_1) := (blk_cell BK740.out 1).trans rfl; have hcz59_2 : w58.cell? ⟨gb740, 2, none⟩ = some (.int .i64 a0_2) := (blk_cell BK740.out 2).trans rfl; have hcz59_3 : w58.cell? ⟨gb740, 3, none⟩ = some (.int .u64 a0_3) := (blk_cell BK740.out 3).trans rfl; have hcz59_4 : w58.cell? ⟨gb740, 4, none⟩ = some (.int .u64 a0_4) := (blk_cell BK740.out 4).trans rfl; have hcz59_5 : w58.cell? ⟨gb740, 5, none⟩ = some (.int .u64 a0_5) := (blk_cell BK740.out 5).trans rfl; have hfz59_0 := blk_frozen BK740.out 0; have hfz59_1 := blk_frozen BK740.out 1; have hfz59_2 := blk_frozen BK740.out 2; have hfz59_3 := blk_frozen BK740.out 3; have hfz59_4 := blk_frozen BK740.out 4; have hfz59_5 := blk_frozen BK740.out 5) | ((with_reducible refine gate_callee (f := 14) rfl ?_); refine goesL_ (some 78) rfl rfl Tryd.func14 (by kernel_rfl) rfl #[.agg #[.int .i64 a0_0, .int .i64 a0_1, .int .i64 a0_2, .int .u64 a0_3, .int .u64 a0_4, .int .u64 a0_5], .slice A1 l1.length c1, .int .u64 a2] rfl (by (try simp only [List.map_toArray, List.map_cons, List.map_nil]); first | done | rfl | (simp only [List.length_drop, List.length_take]; rfl)) ?_; (with_reducible refine (impl_TreeRoot.calls kj5 a0_0 a0_1 a0_2 a0_3 a0_4 a0_5 _ _ l1 a2 t785 true _ ?side3 ?side1 ?side2 A20.out).mono ?_); (case side1 => repeat (first | exact (Kd.C_below HR1.out HB.out) | (with_reducible refine Kd.C_alloc ?_ _) | (with_reducible refine Kd.C_drewN ?_ _) | (with_reducible refine Kd.C_drew ?_))); (case side2 => exact HC1.out); (case side3 => exact Glob.below hG (by repeat (first | (with_reducible first | exact HB.out | apply below_alloc | apply pw_below_drewN | apply below_drew1 | refine below_set ?_ GE740.out | refine below_set ?_ GE756.out | refine below_set ?_ GE770.out) | exact HB.out))); rintro e w60 ⟨v786, rfl, ho0, hb⟩; refine ⟨_, rfl, ?_⟩; have n0_ := Aside0.mk (Kd.S_elder' (by (with_reducible repeat (first | apply Kd.S_alloc | apply Kd.S_drewN | apply Kd.S_drew)); exact HO751.out) (Kd.R_base ho0) hb); have n1_ := Aside0.mk (Kd.S_elder' (by (with_reducible repeat (first | apply Kd.S_alloc | apply Kd.S_drewN | apply Kd.S_drew)); exact HO754.out) (Kd.R_base ho0) hb); have n2_ := Aside0.mk (Kd.S_elder' (by (with_reducible repeat (first | apply Kd.S_alloc | apply Kd.S_drewN | apply Kd.S_drew)); exact HO765.out) (Kd.R_base ho0) hb); have n3_ := Aside0.mk (Kd.S_elder' (by (with_reducible repeat (first | apply Kd.S_alloc | apply Kd.S_drewN | apply Kd.S_drew)); exact HO768.out) (Kd.R_base ho0) hb); have n4_ := Aside0.mk (Kd.R_elder' (by (with_reducible repeat (first | apply Kd.R_alloc | apply Kd.R_drewN | apply Kd.R_drew)); exact HO773.out) (Kd.R_base ho0) hb); have n5_ := Aside0.mk (Kd.S_elder' (by (with_reducible repeat (first | apply Kd.S_alloc | apply Kd.S_drewN | apply Kd.S_drew)); exact HO776.out) (Kd.R_base ho0) hb); have n6_ := Aside0.mk (Kd.R_elder' (by (with_reducible repeat (first | apply Kd.R_alloc | apply Kd.R_drewN | apply Kd.R_drew)); exact HO780.out) (Kd.R_base ho0) hb); have n7_ := Aside0.mk (Kd.S_elder' (by (with_reducible repeat (first | apply Kd.S_alloc | apply Kd.S_drewN | apply Kd.S_drew)); exact HO783.out) (Kd.R_base ho0) hb); have n8_ := Aside0.mk (Kd.R_lower (Kd.R_new' (Kd.R_new' ho0 (Kd.R_lt (by (with_reducible repeat (first | apply Kd.R_alloc | apply Kd.R_drewN | apply Kd.R_drew)); exact HO773.out))) (Kd.R_lt (by (with_reducible repeat (first | apply Kd.R_alloc | apply Kd.R_drewN | apply Kd.R_drew)); exact HO780.out))) (below_size (by repeat (first | (with_reducible first | exact HB.out | apply below_alloc | apply pw_below_drewN | apply below_drew1 | refine below_set ?_ GE740.out | refine below_set ?_ GE756.out | refine below_set ?_ GE770.out) | exact HB.out)))); have n9_ := Aside0.mk (blk_below (g := gb740) (o := .cells #[.int .i64 a0_0, .int .i64 a0_1, .int .i64 a0_2, .int .u64 a0_3, .int .u64 a0_4, .int .u64 a0_5] 24 (0, 0)) (by (with_reducible repeat (first | refine blk_drewN ?_ _ | refine blk_drew ?_ | refine blk_alloc ?_ _)); exact BK740.out) hb); have n10_ := Aside0.mk (blk_below (g := gb756) (o := .cells #[.int .u64 t747, .int .u64 t748, .slice Ao38 t749.length co38] 34 (0, 0)) (by (with_reducible repeat (first | refine blk_drewN ?_ _ | refine blk_drew ?_ | refine blk_alloc ?_ _)); exact BK756.out) hb); have n11_ := Aside0.mk (blk_below (g := gb770) (o := .cells #[.int .u64 t761, .int .u64 t762, .slice Ao48 t763.length co48] 34 (0, 0)) (by (with_reducible repeat (first | refine blk_drewN ?_ _ | refine blk_drew ?_ | refine blk_alloc ?_ _)); exact BK770.out) hb); have n12_ := Aside0.mk (below_step (by repeat (first | (with_reducible first | exact HB.out | apply below_alloc | apply pw_below_drewN | apply below_drew1 | refine below_set ?_ GE740.out | refine below_set ?_ GE756.out | refine below_set ?_ GE770.out) | exact HB.out)) hb); clear HO751; clear HO754; clear HO765; clear HO768; clear HO773; clear HO776; clear HO780; clear HO783; clear BK740; clear BK756; clear BK770; clear HB; have HO751 := n0_; have HO754 := n1_; have HO765 := n2_; have HO768 := n3_; have HO773 := n4_; have HO776 := n5_; have HO780 := n6_; have HO783 := n7_; have HO787 := n8_; have BK740 := n9_; have BK756 := n10_; have BK770 := n11_; have HB := n12_; clear n0_ n1_ n2_ n3_ n4_ n5_ n6_ n7_ n8_ n9_ n10_ n11_ n12_; (try clear hb); (try clear hb2); (try clear hk); (try clear hi); (try clear ho0); have hcz61_0 : w60.cell? ⟨gb740, 0, none⟩ = some (.int .i64 a0_0) := (blk_cell BK740.out 0).trans rfl; have hcz61_1 : w60.cell? ⟨gb740, 1, none⟩ = some (.int .i64 a0_1) := (blk_cell BK740.out 1).trans rfl; have hcz61_2 : w60.cell? ⟨gb740, 2, none⟩ = some (.int .i64 a0_2) := (blk_cell BK740.out 2).trans rfl; have hcz61_3 : w60.cell? ⟨gb740, 3, none⟩ = some (.int .u64 a0_3) := (blk_cell BK740.out 3).trans rfl; have hcz61_4 : w60.cell? ⟨gb740, 4, none⟩ = some (.int .u64 a0_4) := (blk_cell BK740.out 4).trans rfl; have hcz61_5 : w60.cell? ⟨gb740, 5, none⟩ = some (.int .u64 a0_5) := (blk_cell BK740.out 5).trans rfl; have hfz61_0 := blk_frozen BK740.out 0; have hfz61_1 := blk_frozen BK740.out 1; have hfz61_2 := blk_frozen BK740.out 2; have hfz61_3 := blk_frozen BK740.out 3; have hfz61_4 := blk_frozen BK740.out 4; have hfz61_5 := blk_frozen BK740.out 5) | ((with_reducible refine gate_callee (f := 14) rfl ?_); refine goesL_ (some 87) rfl rfl Tryd.func14 (by kernel_rfl) rfl #[.agg #[.int .i64 a0_0, .int .i64 a0_1, .int .i64 a0_2, .int .u64 a0_3, .int .u64 a0_4, .int .u64 a0_5], .slice A1 l1.length c1, .int .u64 (IntKind.u64.wrap ((l1.length : Int)))] rfl (by (try simp only [List.map_toArray, List.map_cons, List.map_nil]); first | done | rfl | (simp only [List.length_drop, List.length_take]; rfl)) ?_; (with_reducible refine (impl_TreeRoot.calls kj5 a0_0 a0_1 a0_2 a0_3 a0_4 a0_5 _ _ l1 (IntKind.u64.wrap ((l1.length : Int))) t789 true _ ?side3 ?side1 ?side2 A21.out).mono ?_); (case side1 => repeat (first | exact (Kd.C_below HR1.out HB.out) | (with_reducible refine Kd.C_alloc ?_ _) | (with_reducible refine Kd.C_drewN ?_ _) | (with_reducible refine Kd.C_drew ?_))); (case side2 => exact HC1.out); (case side3 => exact Glob.below hG (by repeat (first | (with_reducible first | exact HB.out | apply below_alloc | apply pw_below_drewN | apply below_drew1 | refine below_set ?_ GE740.out | refine below_set ?_ GE756.out | refine below_set ?_ GE770.out) | exact HB.out))); rintro e w62 ⟨v790, rfl, ho0, hb⟩; refine ⟨_, rfl, ?_⟩; have n0_ := Aside0.mk (Kd.S_elder' (by (with_reducible repeat (first | apply Kd.S_alloc | apply Kd.S_drewN | apply Kd.S_drew)); exact HO751.out) (Kd.R_base ho0) hb); have n1_ := Aside0.mk (Kd.S_elder' (by (with_reducible repeat (first | apply Kd.S_alloc | apply Kd.S_drewN | apply Kd.S_drew)); exact HO754.out) (Kd.R_base ho0) hb); have n2_ := Aside0.mk (Kd.S_elder' (by (with_reducible repeat (first | apply Kd.S_alloc | apply Kd.S_drewN | apply Kd.S_drew)); exact HO765.out) (Kd.R_base ho0) hb); have n3_ := Aside0.mk (Kd.S_elder' (by (with_reducible repeat (first | apply Kd.S_alloc | apply Kd.S_drewN | apply Kd.S_drew)); exact HO768.out) (Kd.R_base ho0) hb); have n4_ := Aside0.mk (Kd.R_elder' (by (with_reducible repeat (first | apply Kd.R_alloc | apply Kd.R_drewN | apply Kd.R_drew)); exact HO773.out) (Kd.R_base ho0) hb); have n5_ := Aside0.mk (Kd.S_elder' (by (with_reducible repeat (first | apply Kd.S_alloc | apply Kd.S_drewN | apply Kd.S_drew)); exact HO776.out) (Kd.R_base ho0) hb); have n6_ := Aside0.mk (Kd.R_elder' (by (with_reducible repeat (first | apply Kd.R_alloc | apply Kd.R_drewN | apply Kd.R_drew)); exact HO780.out) (Kd.R_base ho0) hb); have n7_ := Aside0.mk (Kd.S_elder' (by (with_reducible repeat (first | apply Kd.S_alloc | apply Kd.S_drewN | apply Kd.S_drew)); exact HO783.out) (Kd.R_base ho0) hb); have n8_ := Aside0.mk (Kd.R_elder' (by (with_reducible repeat (first | apply Kd.R_alloc | apply Kd.R_drewN | apply Kd.R_drew)); exact HO787.out) (Kd.R_base ho0) hb); have n9_ := Aside0.mk (Kd.R_lower (Kd.R_new' (Kd.R_new' (Kd.R_new' ho0 (Kd.R_lt (by (with_reducible repeat (first | apply Kd.R_alloc | apply Kd.R_drewN | apply Kd.R_drew)); exact HO773.out))) (Kd.R_lt (by (with_reducible repeat (first | apply Kd.R_alloc | apply Kd.R_drewN | apply Kd.R_drew)); exact HO780.out))) (Kd.R_lt (by (with_reducible repeat (first | apply Kd.R_alloc | apply Kd.R_drewN | apply Kd.R_drew)); exact HO787.out))) (below_size (by repeat (first | (with_reducible first | exact HB.out | apply below_alloc | apply pw_below_drewN | apply below_drew1 | refine below_set ?_ GE740.out | refine below_set ?_ GE756.out | refine below_set ?_ GE770.out) | exact HB.out)))); have n10_ := Aside0.mk (blk_below (g := gb740) (o := .cells #[.int .i64 a0_0, .int .i64 a0_1, .int .i64 a0_2, .int .u64 a0_3, .int .u64 a0_4, .int .u64 a0_5] 24 (0, 0)) (by (with_reducible repeat (first | refine blk_drewN ?_ _ | refine blk_drew ?_ | refine blk_alloc ?_ _)); exact BK740.out) hb); have n11_ := Aside0.mk (blk_below (g := gb756) (o := .cells #[.int .u64 t747, .int .u64 t748, .slice Ao38 t749.length co38] 34 (0, 0)) (by (with_reducible repeat (first | refine blk_drewN ?_ _ | refine blk_drew ?_ | refine blk_alloc ?_ _)); exact BK756.out) hb); have n12_ := Aside0.mk (blk_below (g := gb770) (o := .cells #[.int .u64 t761, .int .u64 t762, .slice Ao48 t763.length co48] 34 (0, 0)) (by (with_reducible repeat (first | refine blk_drewN ?_ _ | refine blk_drew ?_ | refine blk_alloc ?_ _)); exact BK770.out) hb); have n13_ := Aside0.mk (below_step (by repeat (first | (with_reducible first | exact HB.out | apply below_alloc | apply pw_below_drewN | apply below_drew1 | refine below_set ?_ GE740.out | refine below_set ?_ GE756.out | refine below_set ?_ GE770.out) | exact HB.out)) hb); clear HO751; clear HO754; clear HO765; clear HO768; clear HO773; clear HO776; clear HO780; clear HO783; clear HO787; clear BK740; clear BK756; clear BK770; clear HB; have HO751 := n0_; have HO754 := n1_; have HO765 := n2_; have HO768 := n3_; have HO773 := n4_; have HO776 := n5_; have HO780 := n6_; have HO783 := n7_; have HO787 := n8_; have HO791 := n9_; have BK740 := n10_; have BK756 := n11_; have BK770 := n12_; have HB := n13_; clear n0_ n1_ n2_ n3_ n4_ n5_ n6_ n7_ n8_ n9_ n10_ n11_ n12_ n13_; (try clear hb); (try clear hb2); (try clear hk); (try clear hi); (try clear ho0); obtain ⟨Ao63, co63, eo63⟩ := Kd.R_slice HO773.out; subst eo63; obtain ⟨Ao64, co64, eo64⟩ := Kd.R_slice HO787.out; subst eo64) | (go_at_call 15; (with_reducible refine (spec_SameText.calls _ _ t771 _ _ t785 true _ ?side1 ?side2 ?side3 ?side4 A28.out).mono ?_); (case side1 => repeat (first | exact (Kd.R_reads' HO773.out).2.2 | (with_reducible refine Kd.C_alloc ?_ _) | (with_reducible refine Kd.C_drewN ?_ _) | (with_reducible refine Kd.C_drew ?_))); (case side2 => exact (Kd.R_reads' HO773.out).2.1); (case side3 => repeat (first | exact (Kd.R_reads' HO787.out).2.2 | (with_reducible refine Kd.C_alloc ?_ _) | (with_reducible refine Kd.C_drewN ?_ _) | (with_reducible refine Kd.C_drew ?_))); (case side4 => exact (Kd.R_reads' HO787.out).2.1); rintro e w' ⟨rfl, ⟨nd, rfl⟩⟩; obtain ⟨Ao65, co65, eo65⟩ := Kd.R_slice HO780.out; subst eo65; obtain ⟨Ao66, co66, eo66⟩ := Kd.R_slice HO791.out; subst eo66) | (go_at_call 15; (with_reducible refine (spec_SameText.calls _ _ t778 _ _ t789 t794 _ ?side1 ?side2 ?side3 ?side4 A30.out).mono ?_); (case side1 => repeat (first | exact (Kd.R_reads' HO780.out).2.2 | (with_reducible refine Kd.C_alloc ?_ _) | (with_reducible refine Kd.C_drewN ?_ _) | (with_reducible refine Kd.C_drew ?_))); (case side2 => exact (Kd.R_reads' HO780.out).2.1); (case side3 => repeat (first | exact (Kd.R_reads' HO791.out).2.2 | (with_reducible refine Kd.C_alloc ?_ _) | (with_reducible refine Kd.C_drewN ?_ _) | (with_reducible refine Kd.C_drew ?_))); (case side4 => exact (Kd.R_reads' HO791.out).2.1); rintro e w' ⟨rfl, ⟨nd, rfl⟩⟩))
                            go_ret
                            exact ⟨by first | rfl | (simp [errW_none, errW_some] <;> rfl) | (simp [*, errW_none, errW_some] <;> rfl), by repeat (first | (with_reducible first | exact HB.out | apply below_alloc | apply pw_below_drewN | apply below_drew1 | refine below_set ?_ GE740.out | refine below_set ?_ GE756.out | refine below_set ?_ GE770.out) | exact HB.out)⟩
                          · replace c29 := Bool.eq_false_iff.mpr c29
                            subst c29
                            have H1 : (none) = some r := by rw [if_neg (show ¬ (false = true) by decide)] at H; exact H
                            clear H
                            have H := H1
                            clear H1
                            exact absurd H (by simp)
                        · replace c27 := Bool.eq_false_iff.mpr c27
                          subst c27
                          have H1 : (none) = some r := by rw [if_neg (show ¬ (false = true) by decide)] at H; exact H
                          clear H
                          have H := H1
                          clear H1
                          exact absurd H (by simp)
                      · replace c26 := Bool.eq_false_iff.mpr c26
                        subst c26
                        have H1 : (none) = some r := by rw [if_neg (show ¬ (false = true) by decide)] at H; exact H
                        clear H
                        have H := H1
                        clear H1
                        exact absurd H (by simp)
                    · replace c25 := Bool.eq_false_iff.mpr c25
                      subst c25
                      have H1 : (none) = some r := by rw [if_neg (show ¬ (false = true) by decide)] at H; exact H
                      clear H
                      have H := H1
                      clear H1
                      exact absurd H (by simp)
                  · replace c24 := Bool.eq_false_iff.mpr c24
                    subst c24
                    have H1 : (none) = some r := by rw [if_neg (show ¬ (false = true) by decide)] at H; exact H
                    clear H
                    have H := H1
                    clear H1
                    exact absurd H (by simp)
                · replace c23 := Bool.eq_false_iff.mpr c23
                  subst c23
                  have H1 : (none) = some r := by rw [if_neg (show ¬ (false = true) by decide)] at H; exact H
                  clear H
                  have H := H1
                  clear H1
                  exact absurd H (by simp)
              · replace c22 := Bool.eq_false_iff.mpr c22
                subst c22
                have H1 : (none) = some r := by rw [if_neg (show ¬ (false = true) by decide)] at H; exact H
                clear H
                have H := H1
                clear H1
                exact absurd H (by simp)
            · rw [if_neg c13] at H
              exact absurd H (by simp)
          · rw [if_neg c12] at H
            exact absurd H (by simp)
  · replace c5 := Bool.eq_false_iff.mpr c5
    subst c5
    have H1 : (some true) = some r := by rw [if_neg (show ¬ (false = true) by decide)] at H; exact H
    clear H
    have H := H1
    clear H1
    obtain rfl := Option.some.inj H
    go_enter Tryd.func9, Tryd.ntmps9
    go_wp2_with (first | ((with_reducible refine gate_dst (N := 3) rfl ?_); (try (refine gate_guard (by rfl) ?_; dsimp only)); refine box_event ?hg (N := 3) ?hd (cs := #[.int .i64 a0_0, .int .i64 a0_1, .int .i64 a0_2, .int .u64 a0_3, .int .u64 a0_4, .int .u64 a0_5]) (t := 24) ?hr ?_; (case hd => rfl); (case hg => rfl); (case hr => first | (go_simp; done) | (go_simp; rfl)); intro gb740 hg w67 hbox hb; have n0_ := Aside0.mk (below_step (by repeat (first | (with_reducible first | exact HB.out | apply below_alloc | apply pw_below_drewN | apply below_drew1) | exact HB.out)) hb); have n1_ := Aside0.mk (hbox); have n2_ := Aside0.mk ((by rw [hg]; exact (below_size (by repeat (first | (with_reducible first | exact HB.out | apply below_alloc | apply pw_below_drewN | apply below_drew1) | exact HB.out))) : w.heap.size ≤ gb740)); have n3_ := Aside0.mk ((by rw [hg]; exact (below_size (by repeat (first | (with_reducible first | exact HB.out | apply below_alloc | apply pw_below_drewN | apply below_drew1) | exact HB.out))) : w.heap.size ≤ gb740)); clear HB; have HB := n0_; have BK740 := n1_; have GW740 := n2_; have GE740 := n3_; clear n0_ n1_ n2_ n3_; clear hb hbox hg) | ((with_reducible refine gate_callee (f := 12) rfl ?_); refine goesL_ (some 24) rfl rfl Tryd.func12 (by kernel_rfl) rfl #[.slice A1 l1.length c1] rfl (by (try simp only [List.map_toArray, List.map_cons, List.map_nil]); first | done | rfl | (simp only [List.length_drop, List.length_take]; rfl)) ?_; (with_reducible refine (laws_zzFits2.calls k _ _ l1 false _ ?side1 ?side2 A4.out).mono ?_); (case side1 => repeat (first | exact (Kd.C_below HR1.out HB.out) | (with_reducible refine Kd.C_alloc ?_ _) | (with_reducible refine Kd.C_drewN ?_ _) | (with_reducible refine Kd.C_drew ?_))); (case side2 => exact HC1.out); rintro e w' ⟨rfl, ⟨nd, rfl⟩⟩; refine ⟨_, rfl, ?_⟩))
    go_ret
    exact ⟨by first | rfl | (simp [errW_none, errW_some] <;> rfl) | (simp [*, errW_none, errW_some] <;> rfl), by repeat (first | (with_reducible first | exact HB.out | apply below_alloc | apply pw_below_drewN | apply below_drew1 | refine below_set ?_ GE740.out) | exact HB.out)⟩
end Go.Proofs.YtielnphmcaecdaaDoor.PAll
